namespace Go.Proofs.YbulkegnmDoor

/-- How many i < n have p. -/
def cntB (p : Nat → Bool) : Nat → Nat
  | 0 => 0
  | n + 1 => cntB p n + (if p n then 1 else 0)
theorem cntB_le (p : Nat → Bool) : ∀ n, cntB p n ≤ n
  | 0 => Nat.le_refl _
  | n + 1 => by have := cntB_le p n; simp only [cntB]; split <;> omega
theorem cntB_free (p : Nat → Bool) : ∀ n, cntB p n < n → ∃ i, i < n ∧ p i = false
  | 0, h => by simp at h
  | n + 1, h => by
    cases hp : p n with
    | false => exact ⟨n, by omega, hp⟩
    | true =>
      simp only [cntB, hp, if_true] at h
      obtain ⟨i, hi, h2⟩ := cntB_free p n (by omega)
      exact ⟨i, by omega, h2⟩
theorem cntB_congr {p q : Nat → Bool} : ∀ n, (∀ i, i < n → p i = q i) → cntB p n = cntB q n
  | 0, _ => rfl
  | n + 1, h => by simp only [cntB]; rw [cntB_congr n (fun i hi => h i (by omega)), h n (by omega)]
theorem cntB_upd {p q : Nat → Bool} {i : Nat} (hp : p i = false) (hq : q i = true) (ho : ∀ j, j ≠ i → q j = p j) : ∀ n, i < n → cntB q n = cntB p n + 1
  | 0, h => by omega
  | n + 1, h => by
    simp only [cntB]
    by_cases e : i = n
    · subst e
      rw [cntB_congr i (fun j hj => ho j (by omega)), hp, hq]
      simp
    · rw [cntB_upd hp hq ho n (by omega), ho n (fun h => e h.symm)]
      omega
theorem cntB_zero {p : Nat → Bool} : ∀ n, (∀ i, i < n → p i = false) → cntB p n = 0
  | 0, _ => rfl
  | n + 1, h => by simp only [cntB]; rw [cntB_zero n (fun i hi => h i (by omega)), h n (by omega)]; rfl

def upd {α : Type} (f : Nat → α) (i : Nat) (v : α) : Nat → α := fun j => if j = i then v else f j
@[simp] theorem upd_same {α : Type} (f : Nat → α) (i : Nat) (v : α) : upd f i v i = v := by simp [upd]
theorem upd_other {α : Type} (f : Nat → α) {i j : Nat} (v : α) (h : j ≠ i) : upd f i v j = f j := by simp [upd, h]

/-- A table of n slots (node, place, stamp), whose live slots (stamp = cur) hold the entries E; h: where the search for a node starts. -/
structure TInv (n : Nat) (h : Int → Nat) (cur : Nat) (nd pl : Nat → Int) (st : Nat → Nat) (E : List (Int × Int)) : Prop where
  inE : ∀ i, i < n → st i = cur → (nd i, pl i) ∈ E
  found : ∀ e ∈ E, ∃ d, d < n ∧ st ((h e.1 + d) % n) = cur ∧ nd ((h e.1 + d) % n) = e.1 ∧ ∀ d', d' < d → st ((h e.1 + d') % n) = cur
  one : ∀ i j, i < n → j < n → st i = cur → st j = cur → nd i = nd j → i = j
  dist : (E.map (·.1)).Nodup
  cnt : cntB (fun i => st i == cur) n = E.length

theorem fst_inj {E : List (Int × Int)} (h : (E.map (·.1)).Nodup) {x a b : Int} (ha : (x, a) ∈ E) (hb : (x, b) ∈ E) : a = b := by
  induction E with
  | nil => cases ha
  | cons e E ih =>
    simp only [List.map_cons, List.nodup_cons] at h
    rcases List.mem_cons.1 ha with h1 | h1 <;> rcases List.mem_cons.1 hb with h2 | h2
    · rw [← h1] at h2; exact (Prod.mk.inj h2).2.symm
    · exact absurd (List.mem_map.2 ⟨_, h2, rfl⟩) (by rw [← h1] at h; exact h.1)
    · exact absurd (List.mem_map.2 ⟨_, h1, rfl⟩) (by rw [← h2] at h; exact h.1)
    · exact ih h.2 h1 h2

namespace TInv
variable {n : Nat} {h : Int → Nat} {cur : Nat} {nd pl : Nat → Int} {st : Nat → Nat} {E : List (Int × Int)}
theorem congr (t : TInv n h cur nd pl st E) {E' : List (Int × Int)} (hm : ∀ e, e ∈ E' ↔ e ∈ E) (hd : (E'.map (·.1)).Nodup) (hl : E'.length = E.length) : TInv n h cur nd pl st E' :=
  ⟨fun i hi hs => (hm _).2 (t.inE i hi hs), fun e he => t.found e ((hm e).1 he), t.one, hd, by rw [hl]; exact t.cnt⟩
/-- A free slot on the way. -/
theorem free (t : TInv n h cur nd pl st E) (hl : E.length < n) (x : Int) (hx : h x < n) : ∃ d, d < n ∧ st ((h x + d) % n) ≠ cur := by
  obtain ⟨i, hi, hp⟩ := cntB_free _ n (by rw [t.cnt]; exact hl)
  refine ⟨(i + (n - h x)) % n, Nat.mod_lt _ (by omega), ?_⟩
  have e : (h x + (i + (n - h x)) % n) % n = i := by
    rw [Nat.add_mod_mod, show h x + (i + (n - h x)) = i + n by omega, Nat.add_mod_right, Nat.mod_eq_of_lt hi]
  rw [e]
  simpa using hp
/-- The search goes on. -/
theorem go_on (t : TInv n h cur nd pl st E) (hl : E.length < n) (x : Int) (hx : h x < n) (d : Nat) (hd : d < n) (hw : ∀ d', d' ≤ d → st ((h x + d') % n) = cur) : d + 1 < n := by
  obtain ⟨d1, h1, h2⟩ := t.free hl x hx
  rcases Nat.lt_or_ge d d1 with h3 | h3
  · omega
  · exact absurd (hw d1 h3) h2
/-- No entry of x: the search came to a free slot. -/
theorem absent (t : TInv n h cur nd pl st E) (x : Int) (d : Nat) (hw : ∀ d', d' < d → st ((h x + d') % n) = cur ∧ nd ((h x + d') % n) ≠ x) (hf : st ((h x + d) % n) ≠ cur) : ∀ p, (x, p) ∉ E := by
  intro p hp
  obtain ⟨d0, h1, h2, h3, h4⟩ := t.found _ hp
  rcases Nat.lt_trichotomy d0 d with h5 | h5 | h5
  · exact (hw d0 h5).2 h3
  · subst h5; exact hf h2
  · exact hf (h4 d h5)
theorem insert (t : TInv n h cur nd pl st E) (x p : Int) (hn : 0 < n) (d : Nat) (hd : d < n) (hw : ∀ d', d' < d → st ((h x + d') % n) = cur ∧ nd ((h x + d') % n) ≠ x) (hf : st ((h x + d) % n) ≠ cur) :
    TInv n h cur (upd nd ((h x + d) % n) x) (upd pl ((h x + d) % n) p) (upd st ((h x + d) % n) cur) (E ++ [(x, p)]) := by
  have hab := t.absent x d hw hf
  have hi : (h x + d) % n < n := Nat.mod_lt _ hn
  have hne : ∀ i, st i = cur → i ≠ (h x + d) % n := fun i hi e => hf (e ▸ hi)
  refine ⟨?_, ?_, ?_, ?_, ?_⟩
  · intro i hi2 hs
    by_cases e : i = (h x + d) % n
    · rw [e]; simp
    · rw [upd_other _ _ e] at hs
      rw [upd_other _ _ e, upd_other _ _ e]
      exact List.mem_append_left _ (t.inE i hi2 hs)
  · intro e he
    rcases List.mem_append.1 he with h1 | h1
    · obtain ⟨d0, a1, a2, a3, a4⟩ := t.found e h1
      refine ⟨d0, a1, ?_, ?_, fun d' hd' => ?_⟩
      · rw [upd_other _ _ (hne _ a2)]; exact a2
      · rw [upd_other _ _ (hne _ a2)]; exact a3
      · rw [upd_other _ _ (hne _ (a4 d' hd'))]; exact a4 d' hd'
    · simp only [List.mem_singleton] at h1
      subst h1
      refine ⟨d, hd, by simp, by simp, fun d' hd' => ?_⟩
      have := (hw d' hd').1
      show upd st _ cur ((h x + d') % n) = cur
      rw [upd_other _ _ (hne _ this)]; exact this
  · have key : ∀ j, j < n → st j = cur → nd j ≠ x := by
      intro j hj hs e
      have := t.inE j hj hs
      rw [e] at this
      exact hab _ this
    intro i j h1 h2 h3 h4 h5
    by_cases e1 : i = (h x + d) % n <;> by_cases e2 : j = (h x + d) % n
    · rw [e1, e2]
    · rw [e1, upd_same, upd_other _ _ e2] at h5
      rw [upd_other _ _ e2] at h4
      exact absurd h5.symm (key j h2 h4)
    · rw [e2, upd_same, upd_other _ _ e1] at h5
      rw [upd_other _ _ e1] at h3
      exact absurd h5 (key i h1 h3)
    · rw [upd_other _ _ e1] at h3 h5
      rw [upd_other _ _ e2] at h4 h5
      exact t.one i j h1 h2 h3 h4 h5
  · rw [List.map_append, List.nodup_append]
    refine ⟨t.dist, by simp, ?_⟩
    intro a ha b hb
    simp only [List.map_cons, List.map_nil, List.mem_singleton] at hb
    subst hb
    intro e
    subst e
    obtain ⟨e, he, h1⟩ := List.mem_map.1 ha
    obtain ⟨a1, a2⟩ := e
    simp only at h1
    subst h1
    exact hab _ he
  · rw [List.length_append, ← t.cnt]
    refine cntB_upd (i := (h x + d) % n) ?_ ?_ ?_ n hi
    · simpa using hf
    · simp
    · intro j hj
      show (upd st _ cur j == cur) = (st j == cur)
      rw [upd_other _ _ hj]
end TInv
/-- An empty table. -/
theorem TInv.empty (n : Nat) (h : Int → Nat) (cur : Nat) (nd pl : Nat → Int) (st : Nat → Nat) (hs : ∀ i, i < n → st i ≠ cur) : TInv n h cur nd pl st [] := by
  refine ⟨fun i hi h1 => absurd h1 (hs i hi), ?_, fun i j hi _ h1 => absurd h1 (hs i hi), by simp, ?_⟩
  · intro e he
    cases he
  · rw [cntB_zero n (fun i hi => by simpa using hs i hi)]
    rfl

/-- The entries of the first k slots, in the slots' order. -/
def entries (cur : Nat) (nd pl : Nat → Int) (st : Nat → Nat) : Nat → List (Int × Int)
  | 0 => []
  | k + 1 => entries cur nd pl st k ++ (if st k = cur then [(nd k, pl k)] else [])
theorem mem_entries {cur : Nat} {nd pl : Nat → Int} {st : Nat → Nat} {e : Int × Int} : ∀ {k : Nat}, e ∈ entries cur nd pl st k ↔ ∃ i, i < k ∧ st i = cur ∧ (nd i, pl i) = e
  | 0 => by simp [entries]
  | k + 1 => by
    rw [entries, List.mem_append, mem_entries (k := k)]
    constructor
    · rintro (⟨i, h1, h2, h3⟩ | h)
      · exact ⟨i, by omega, h2, h3⟩
      · split at h
        · next hs => exact ⟨k, by omega, hs, (List.mem_singleton.1 h).symm⟩
        · cases h
    · rintro ⟨i, h1, h2, h3⟩
      by_cases e : i = k
      · subst e; right; rw [if_pos h2]; exact List.mem_singleton.2 h3.symm
      · left; exact ⟨i, by omega, h2, h3⟩
theorem entries_length {cur : Nat} {nd pl : Nat → Int} {st : Nat → Nat} : ∀ {k : Nat}, (entries cur nd pl st k).length = cntB (fun i => st i == cur) k
  | 0 => rfl
  | k + 1 => by
    rw [entries, List.length_append, entries_length, cntB]
    by_cases hs : st k = cur <;> simp [hs]
theorem cntB_mono (p : Nat → Bool) {k n : Nat} (h : k ≤ n) : cntB p k ≤ cntB p n := by
  induction n with
  | zero => rw [show k = 0 by omega]; exact Nat.le_refl _
  | succ n ih =>
    by_cases e : k = n + 1
    · rw [e]; exact Nat.le_refl _
    · have := ih (by omega); simp only [cntB]; omega
theorem TInv.entries_le {n : Nat} {h : Int → Nat} {cur : Nat} {nd pl : Nat → Int} {st : Nat → Nat} {E : List (Int × Int)} (t : TInv n h cur nd pl st E) {k : Nat} (hk : k ≤ n) : (entries cur nd pl st k).length ≤ E.length := by
  rw [entries_length, ← t.cnt]; exact cntB_mono _ hk
theorem TInv.entries_lt {n : Nat} {h : Int → Nat} {cur : Nat} {nd pl : Nat → Int} {st : Nat → Nat} {E : List (Int × Int)} (t : TInv n h cur nd pl st E) {k : Nat} (hk : k < n) (hs : st k = cur) : (entries cur nd pl st k).length < E.length := by
  have := t.entries_le (k := k + 1) hk
  rw [entries, List.length_append, if_pos hs] at this
  simp at this; omega
theorem TInv.entries_new {n : Nat} {h : Int → Nat} {cur : Nat} {nd pl : Nat → Int} {st : Nat → Nat} {E : List (Int × Int)} (t : TInv n h cur nd pl st E) {k : Nat} (hk : k < n) (hs : st k = cur) : ∀ p, (nd k, p) ∉ entries cur nd pl st k := by
  intro p hp
  obtain ⟨i, h1, h2, h3⟩ := mem_entries.1 hp
  have := t.one i k (by omega) hk h2 hs (Prod.mk.inj h3).1
  omega
/-- A table that holds the entries of the old one holds E. -/
theorem TInv.regrown {n : Nat} {h : Int → Nat} {cur : Nat} {nd pl : Nat → Int} {st : Nat → Nat} {E : List (Int × Int)} (t : TInv n h cur nd pl st E) {n' : Nat} {h' : Int → Nat} {nd' pl' : Nat → Int} {st' : Nat → Nat} (t' : TInv n' h' cur nd' pl' st' (entries cur nd pl st n)) : TInv n' h' cur nd' pl' st' E := by
  refine t'.congr ?_ t.dist ?_
  · intro e
    rw [mem_entries]
    constructor
    · intro he
      obtain ⟨d, h1, h2, h3, _⟩ := t.found e he
      refine ⟨_, Nat.mod_lt _ (by omega), h2, ?_⟩
      have h4 := t.inE _ (Nat.mod_lt _ (by omega)) h2
      rw [h3] at h4 ⊢
      have := fst_inj t.dist h4 (show (e.1, e.2) ∈ E from he)
      rw [this]
    · rintro ⟨i, h1, h2, h3⟩
      rw [← h3]
      exact t.inE i h1 h2
  · rw [entries_length, t.cnt]

/-! The nodes of a search and their places. -/
def enumE (N : List Int) : List (Int × Int) := N.zipIdx.map (fun e => (e.1, (e.2 : Int)))
theorem mem_enumE {N : List Int} {x p : Int} : (x, p) ∈ enumE N ↔ ∃ i : Nat, N[i]? = some x ∧ p = i := by
  simp only [enumE, List.mem_map, Prod.mk.injEq, Prod.exists]
  constructor
  · rintro ⟨a, b, h1, rfl, rfl⟩
    exact ⟨b, by simpa [List.mem_zipIdx_iff_getElem?] using h1, rfl⟩
  · rintro ⟨i, h1, rfl⟩
    exact ⟨x, i, by simpa [List.mem_zipIdx_iff_getElem?] using h1, rfl, rfl⟩
theorem enumE_length (N : List Int) : (enumE N).length = N.length := by simp [enumE]
theorem enumE_append (N : List Int) (x : Int) : enumE (N ++ [x]) = enumE N ++ [(x, (N.length : Int))] := by
  simp [enumE, List.zipIdx_append]
theorem enumE_one (x : Int) : enumE [x] = [(x, 0)] := rfl
/-- One arc's place: its node's place, or the next. -/
def placeIn (N : List Int) (x : Int) : Nat := N.idxOf x
def addNode (N : List Int) (x : Int) : List Int := if x ∈ N then N else N ++ [x]
def addNodes (N : List Int) (ws : List Int) : List Int := ws.foldl addNode N
def addPlaces (N : List Int) : List Int → List Int
  | [] => []
  | x :: ws => (placeIn N x : Int) :: addPlaces (addNode N x) ws
theorem placeIn_seen {N : List Int} (hn : N.Nodup) {x p : Int} (h : (x, p) ∈ enumE N) : x ∈ N ∧ p = placeIn N x := by
  obtain ⟨i, h1, rfl⟩ := mem_enumE.1 h
  obtain ⟨hi, h2⟩ := List.getElem?_eq_some_iff.1 h1
  refine ⟨h2 ▸ List.getElem_mem hi, ?_⟩
  have := hn.idxOf_getElem i hi
  rw [h2] at this
  simp [placeIn, this]
theorem placeIn_new {N : List Int} {x : Int} (h : ∀ p, (x, p) ∉ enumE N) : x ∉ N ∧ placeIn N x = N.length := by
  have : x ∉ N := by
    intro hx
    obtain ⟨i, hi, e⟩ := List.mem_iff_getElem.1 hx
    exact h i (mem_enumE.2 ⟨i, by rw [List.getElem?_eq_getElem hi, e], rfl⟩)
  exact ⟨this, List.idxOf_eq_length this⟩
end Go.Proofs.YbulkegnmDoor
