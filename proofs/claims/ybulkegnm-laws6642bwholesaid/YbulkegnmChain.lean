import Derived.Test.YbulkegnmKahn
namespace Go.Proofs.Ybulkegnm
/-- The spans of the first m operations. -/
def FI (tx : Nat → Nat) : Nat → Nat → Int
  | 0, _ => -1
  | m + 1, v => if v = tx m ∧ FI tx m v < 0 then (m : Int) else FI tx m v
def LA (tx : Nat → Nat) : Nat → Nat → Int
  | 0, _ => -1
  | m + 1, v => if v = tx m then (m : Int) else LA tx m v
theorem FI_at (tx : Nat → Nat) : ∀ {m v i : Nat}, FI tx m v = (i : Int) → i < m ∧ tx i = v
  | 0, v, i, h => by simp [FI] at h
  | m + 1, v, i, h => by
    rw [FI] at h
    split at h
    · next hc =>
      have : i = m := by omega
      subst this
      exact ⟨by omega, hc.1.symm⟩
    · obtain ⟨h1, h2⟩ := FI_at tx h
      exact ⟨by omega, h2⟩
theorem LA_at (tx : Nat → Nat) : ∀ {m v i : Nat}, LA tx m v = (i : Int) → i < m ∧ tx i = v
  | 0, v, i, h => by simp [LA] at h
  | m + 1, v, i, h => by
    rw [LA] at h
    split at h
    · next hc =>
      have : i = m := by omega
      subst this
      exact ⟨by omega, hc.symm⟩
    · obtain ⟨h1, h2⟩ := LA_at tx h
      exact ⟨by omega, h2⟩
theorem FI_ge (tx : Nat → Nat) : ∀ m v, -1 ≤ FI tx m v ∧ FI tx m v < m ∧ -1 ≤ LA tx m v ∧ LA tx m v < m ∧ (0 ≤ LA tx m v ↔ 0 ≤ FI tx m v)
  | 0, v => by simp [FI, LA]
  | m + 1, v => by
    have := FI_ge tx m v
    rw [FI, LA]
    by_cases e : v = tx m
    · rw [if_pos e]
      by_cases h : FI tx m v < 0
      · rw [if_pos ⟨e, h⟩]; omega
      · rw [if_neg (fun hh => h hh.2)]; omega
    · rw [if_neg e, if_neg (fun hh => e hh.1)]; omega

/-- The graph under way: its nodes, its arcs, the latest commit's node. -/
structure BS where
  len : Nat
  f : Nat → List Nat
  lt : Option Nat
/-- The arc of a first operation. -/
def BS.arcFirst (b : BS) (fi : Nat → Int) (i v : Nat) : BS := match b.lt with
  | none => b
  | some l => if fi v = (i : Int) then { b with f := upd b.f l (b.f l ++ [v]) } else b
/-- The node of a commit. -/
def BS.commit (b : BS) (v : Nat) : BS :=
  { len := b.len + 1
    f := match b.lt with
      | none => upd (upd b.f b.len []) v ((upd b.f b.len []) v ++ [b.len])
      | some l => upd (upd (upd b.f b.len []) v ((upd b.f b.len []) v ++ [b.len])) l ((upd (upd b.f b.len []) v ((upd b.f b.len []) v ++ [b.len])) l ++ [b.len])
    lt := some b.len }
def BS.step (b : BS) (fi la : Nat → Int) (i v : Nat) : BS := if la v = (i : Int) then (b.arcFirst fi i v).commit v else b.arcFirst fi i v
def bld (n : Nat) (G : Nat → List Nat) (fi la : Nat → Int) (tx : Nat → Nat) : Nat → BS
  | 0 => ⟨n, G, none⟩
  | m + 1 => (bld n G fi la tx m).step fi la m (tx m)
/-- Well formed: the latest commit is a node beyond the first n. -/
structure BW (n : Nat) (b : BS) : Prop where
  len : n ≤ b.len
  lt : ∀ l, b.lt = some l → n ≤ l ∧ l < b.len
  arcs : ∀ v, v < b.len → ∀ w ∈ b.f v, w < b.len ∧ w ≠ v
theorem arcFirst_len (b : BS) (fi : Nat → Int) (i v : Nat) : (b.arcFirst fi i v).len = b.len ∧ (b.arcFirst fi i v).lt = b.lt := by
  unfold BS.arcFirst
  split
  · exact ⟨rfl, rfl⟩
  · split <;> exact ⟨rfl, rfl⟩
theorem BW.first {n : Nat} {b : BS} (h : BW n b) (fi : Nat → Int) (i : Nat) {v : Nat} (hv : v < n) : BW n (b.arcFirst fi i v) := by
  unfold BS.arcFirst
  split
  · exact h
  · next l hl =>
    split
    · refine ⟨h.len, h.lt, fun x hx w hw => ?_⟩
      have hl2 := h.lt l hl
      by_cases e : x = l
      · subst e
        have hw' : w ∈ b.f x ++ [v] := by simpa [upd_same] using hw
        rcases List.mem_append.1 hw' with h1 | h1
        · exact h.arcs x hx w h1
        · have : w = v := by simpa using h1
          subst this
          have := h.len
          exact ⟨by show w < b.len; omega, by omega⟩
      · have hw' : w ∈ b.f x := by simpa [upd_other _ _ e] using hw
        exact h.arcs x hx w hw'
    · exact h
theorem BW.com {n : Nat} {b : BS} (h : BW n b) {v : Nat} (hv : v < n) : BW n (b.commit v) := by
  have hl := h.len
  have key : ∀ x, x < b.len + 1 → ∀ w ∈ upd (upd b.f b.len []) v ((upd b.f b.len []) v ++ [b.len]) x, w < b.len + 1 ∧ w ≠ x := by
    intro x hx w hw
    by_cases e : x = v
    · subst e
      rw [upd_same, upd_other _ _ (by omega)] at hw
      rcases List.mem_append.1 hw with h1 | h1
      · have := h.arcs x (by omega) w h1; exact ⟨by omega, this.2⟩
      · have : w = b.len := by simpa using h1
        omega
    · rw [upd_other _ _ e] at hw
      by_cases e2 : x = b.len
      · subst e2; rw [upd_same] at hw; cases hw
      · rw [upd_other _ _ e2] at hw
        have := h.arcs x (by omega) w hw
        exact ⟨by omega, this.2⟩
  refine ⟨by show n ≤ b.len + 1; omega, fun l e => ?_, ?_⟩
  · have : b.len = l := by simpa [BS.commit] using e
    show n ≤ l ∧ l < b.len + 1
    omega
  · intro x hx w hw
    have hx' : x < b.len + 1 := hx
    show w < b.len + 1 ∧ w ≠ x
    cases hlt : b.lt with
    | none =>
      simp only [BS.commit, hlt] at hw
      exact key x hx' w hw
    | some l =>
      simp only [BS.commit, hlt] at hw
      by_cases e : x = l
      · subst e
        rw [upd_same] at hw
        rcases List.mem_append.1 hw with h1 | h1
        · exact key x hx' w h1
        · have : w = b.len := by simpa using h1
          have := h.lt x hlt
          omega
      · rw [upd_other _ _ e] at hw
        exact key x hx' w hw
theorem BW.step {n : Nat} {b : BS} (h : BW n b) (fi la : Nat → Int) (i : Nat) {v : Nat} (hv : v < n) : BW n (b.step fi la i v) := by
  unfold BS.step
  split
  · exact (h.first fi i hv).com hv
  · exact h.first fi i hv
/-- Arcs are only added. -/
theorem arcFirst_mono {b : BS} (fi : Nat → Int) (i v x w : Nat) (hw : w ∈ b.f x) : w ∈ (b.arcFirst fi i v).f x := by
  unfold BS.arcFirst
  split
  · exact hw
  · split
    · next l _ _ =>
      show w ∈ upd b.f l (b.f l ++ [v]) x
      by_cases e : x = l
      · subst e; rw [upd_same]; exact List.mem_append_left _ hw
      · rw [upd_other _ _ e]; exact hw
    · exact hw
theorem commit_mono {n : Nat} {b : BS} (h : BW n b) {v : Nat} (hv : v < n) {x w : Nat} (hx : x < b.len) (hw : w ∈ b.f x) : w ∈ (b.commit v).f x := by
  have hl := h.len
  have key : w ∈ upd (upd b.f b.len []) v ((upd b.f b.len []) v ++ [b.len]) x := by
    by_cases e : x = v
    · subst e
      rw [upd_same, upd_other _ _ (by omega)]
      exact List.mem_append_left _ hw
    · rw [upd_other _ _ e, upd_other _ _ (by omega)]; exact hw
  cases hlt : b.lt with
  | none => simp only [BS.commit, hlt]; exact key
  | some l =>
    simp only [BS.commit, hlt]
    by_cases e : x = l
    · subst e; rw [upd_same]; exact List.mem_append_left _ key
    · rw [upd_other _ _ e]; exact key
theorem step_mono {n : Nat} {b : BS} (h : BW n b) (fi la : Nat → Int) (i : Nat) {v : Nat} (hv : v < n) {x w : Nat} (hx : x < b.len) (hw : w ∈ b.f x) : x < (b.step fi la i v).len ∧ w ∈ (b.step fi la i v).f x := by
  have h1 := arcFirst_mono fi i v x w hw
  have h2 := (arcFirst_len b fi i v).1
  unfold BS.step
  split
  · exact ⟨by show x < (b.arcFirst fi i v).len + 1; omega, commit_mono (h.first fi i hv) hv (by omega) h1⟩
  · exact ⟨by omega, h1⟩
/-- The matrix of the law: g's arcs, and u -> w where u's last operation comes before w's first. -/
def adjP (G : Nat → List Nat) (fi la : Nat → Int) (u w : Nat) : Bool := decide (w ∈ G u) || (decide (0 ≤ fi u) && decide (0 ≤ fi w) && decide (la u < fi w))
section
variable {n L : Nat} {G : Nat → List Nat} {fi la : Nat → Int} {tx : Nat → Nat}
theorem bld_wf (hG : ∀ v, v < n → ∀ w ∈ G v, w < n ∧ w ≠ v) (htx : ∀ i, i < L → tx i < n) : ∀ m, m ≤ L → BW n (bld n G fi la tx m)
  | 0, _ => ⟨Nat.le_refl _, (fun l e => by cases e), hG⟩
  | m + 1, hm => (bld_wf hG htx m (by omega)).step fi la m (htx m (by omega))
theorem bld_mono (hG : ∀ v, v < n → ∀ w ∈ G v, w < n ∧ w ≠ v) (htx : ∀ i, i < L → tx i < n) {m : Nat} : ∀ k, m + k ≤ L → ∀ {x w : Nat}, x < (bld n G fi la tx m).len → w ∈ (bld n G fi la tx m).f x → x < (bld n G fi la tx (m + k)).len ∧ w ∈ (bld n G fi la tx (m + k)).f x
  | 0, _, x, w, hx, hw => ⟨hx, hw⟩
  | k + 1, hk, x, w, hx, hw => by
    obtain ⟨h1, h2⟩ := bld_mono hG htx k (by omega) hx hw
    exact step_mono (bld_wf hG htx (m + k) (by omega)) fi la (m + k) (htx (m + k) (by omega)) h1 h2
/-- A falling rank of the graph as it is built. -/
def RkB (b : BS) (r : Nat → Nat) : Prop := ∀ v, v < b.len → ∀ w ∈ b.f v, r w < r v
theorem RkB.early (hG : ∀ v, v < n → ∀ w ∈ G v, w < n ∧ w ≠ v) (htx : ∀ i, i < L → tx i < n) {r : Nat → Nat} (h : RkB (bld n G fi la tx L) r) {m : Nat} (hm : m ≤ L) : RkB (bld n G fi la tx m) r := by
  intro v hv w hw
  have := bld_mono (fi := fi) (la := la) hG htx (m := m) (L - m) (by omega) hv hw
  rw [show m + (L - m) = L by omega] at this
  exact h v this.1 w this.2
/-- The latest commit lies below every node whose commit has come. -/
theorem latest_low (hG : ∀ v, v < n → ∀ w ∈ G v, w < n ∧ w ≠ v) (htx : ∀ i, i < L → tx i < n) (hla : ∀ v i : Nat, la v = (i : Int) → i < L ∧ tx i = v) {r : Nat → Nat} (h : RkB (bld n G fi la tx L) r) : ∀ m, m ≤ L → ∀ u, u < n → 0 ≤ la u → la u < (m : Int) → ∃ l, (bld n G fi la tx m).lt = some l ∧ r l < r u
  | 0, _, u, _, h1, h2 => by omega
  | m + 1, hm, u, hu, h1, h2 => by
    have hr := h.early hG htx hm
    have hw := bld_wf (fi := fi) (la := la) hG htx m (by omega)
    have hv := htx m (by omega)
    rw [bld] at hr ⊢
    have hw1 := hw.first fi m hv
    have hlt := (arcFirst_len (bld n G fi la tx m) fi m (tx m)).2
    have hll := (arcFirst_len (bld n G fi la tx m) fi m (tx m)).1
    unfold BS.step at hr ⊢
    by_cases hc : la (tx m) = (m : Int)
    · rw [if_pos hc] at hr ⊢
      refine ⟨((bld n G fi la tx m).arcFirst fi m (tx m)).len, rfl, ?_⟩
      have hl0 := hw1.len
      generalize (bld n G fi la tx m).arcFirst fi m (tx m) = b at hr hw1 hlt hl0
      have hself : r b.len < r (tx m) := by
        refine hr (tx m) (by show tx m < b.len + 1; omega) _ ?_
        cases hbl : b.lt with
        | none => simp only [BS.commit, hbl]; rw [upd_same]; simp
        | some l =>
          have := hw1.lt l hbl
          simp only [BS.commit, hbl]
          rw [upd_other _ _ (by omega), upd_same]
          simp
      by_cases e : u = tx m
      · rw [e]; exact hself
      · have hlt2 : la u < (m : Int) := by
          rcases Int.lt_or_eq_of_le (show la u ≤ (m : Int) by omega) with h3 | h3
          · exact h3
          · exact absurd (hla u m h3).2.symm e
        obtain ⟨l, h3, h4⟩ := latest_low hG htx hla h m (by omega) u hu h1 hlt2
        rw [h3] at hlt
        have hbl := hw1.lt l hlt
        have : r b.len < r l := by
          refine hr l (by show l < b.len + 1; omega) _ ?_
          simp only [BS.commit, hlt]
          rw [upd_same]
          simp
        omega
    · rw [if_neg hc] at hr ⊢
      have hne : la u ≠ (m : Int) := fun e => by
        have := (hla u m e).2
        rw [this] at hc
        exact hc e
      obtain ⟨l, h3, h4⟩ := latest_low hG htx hla h m (by omega) u hu h1 (by omega)
      exact ⟨l, by rw [hlt]; exact h3, h4⟩
theorem rank_down (hG : ∀ v, v < n → ∀ w ∈ G v, w < n ∧ w ≠ v) (htx : ∀ i, i < L → tx i < n) (hfi : ∀ v i : Nat, fi v = (i : Int) → i < L ∧ tx i = v) (hla : ∀ v i : Nat, la v = (i : Int) → i < L ∧ tx i = v) (hfl : ∀ v, 0 ≤ la v ↔ 0 ≤ fi v) {r : Nat → Nat} (h : RkB (bld n G fi la tx L) r) : Rk n (adjP G fi la) r := by
  intro u w hu hw ha
  rw [adjP, Bool.or_eq_true] at ha
  rcases ha with ha | ha
  · have h1 : w ∈ G u := by simpa using ha
    exact h.early hG htx (Nat.zero_le L) u hu w h1
  · simp only [Bool.and_eq_true, decide_eq_true_eq] at ha
    obtain ⟨⟨h1, h2⟩, h3⟩ := ha
    obtain ⟨i, hi⟩ : ∃ i : Nat, fi w = (i : Int) := ⟨(fi w).toNat, by omega⟩
    obtain ⟨hiL, hti⟩ := hfi w i hi
    by_cases h0 : 0 ≤ la u
    · obtain ⟨l, h4, h5⟩ := latest_low hG htx hla h i (by omega) u hu h0 (by omega)
      have hwf := bld_wf (fi := fi) (la := la) hG htx i (by omega)
      have hl := hwf.lt l h4
      have hr := h.early hG htx (m := i + 1) (by omega)
      have hmem : w ∈ ((bld n G fi la tx i).arcFirst fi i w).f l := by
        simp only [BS.arcFirst, h4, hi, if_true]
        rw [upd_same]
        simp
      have hlen := (arcFirst_len (bld n G fi la tx i) fi i w).1
      have : r w < r l := by
        rw [bld, hti] at hr
        unfold BS.step at hr
        by_cases hc : la w = (i : Int)
        · rw [if_pos hc] at hr
          exact hr l (by show l < ((bld n G fi la tx i).arcFirst fi i w).len + 1; omega) w (commit_mono (hwf.first fi i hw) hw (by omega) hmem)
        · rw [if_neg hc] at hr
          exact hr l (by omega) w hmem
      omega
    · exact absurd ((hfl u).2 h1) h0
/-- A rank of the built graph out of one of the matrix. K: more than the operations. -/
structure UP (n K m : Nat) (la : Nat → Int) (r : Nat → Nat) (b : BS) (R : Nat → Nat) : Prop where
  tx : ∀ u, u < n → R u = (2 * r u + 1) * K
  rk : RkB b R
  com : b.len ≤ n + m
  no : b.lt = none → b.len = n ∧ ∀ u, u < n → 0 ≤ la u → ¬ la u < (m : Int)
  lt : ∀ l, b.lt = some l → ∃ M j, (∀ u, u < n → 0 ≤ la u → la u < (m : Int) → M ≤ r u) ∧ (∃ u, u < n ∧ 0 ≤ la u ∧ la u < (m : Int) ∧ r u = M) ∧ j < m ∧ R l = 2 * M * K + (K - 1 - j) ∧ j + n + 1 = b.len
theorem mul_lt_of {a b K c : Nat} (h : a < b) (hc : c < K) : a * K + c < b * K := by
  have h1 : (a + 1) * K ≤ b * K := Nat.mul_le_mul_right K h
  rw [Nat.add_mul] at h1
  omega
theorem rank_up (hG : ∀ v, v < n → ∀ w ∈ G v, w < n ∧ w ≠ v) (htx : ∀ i, i < L → tx i < n) (hla : ∀ v i : Nat, la v = (i : Int) → i < L ∧ tx i = v) (hfl : ∀ v, 0 ≤ la v ↔ 0 ≤ fi v) {r : Nat → Nat} (h : Rk n (adjP G fi la) r) (K : Nat) (hK : L < K) : ∀ m, m ≤ L → ∃ R, UP n K m la r (bld n G fi la tx m) R
  | 0, _ => by
    refine ⟨fun u => (2 * r u + 1) * K, fun _ _ => rfl, fun v hv w hw => ?_, Nat.le_refl _, fun _ => ⟨rfl, fun u _ h1 => by omega⟩, (fun l e => by cases e)⟩
    have hw' : w ∈ G v := hw
    have h1 := h v w hv (hG v hv w hw').1 (by rw [adjP, Bool.or_eq_true]; left; simpa using hw')
    have h2 := mul_lt_of (a := 2 * r w + 1) (b := 2 * r v + 1) (K := K) (c := 0) (by omega) (by omega)
    simpa using h2
  | m + 1, hm => by
    obtain ⟨R, hR⟩ := rank_up hG htx hla hfl h K hK m (by omega)
    have hwf := bld_wf (fi := fi) (la := la) hG htx m (by omega)
    have hv := htx m (by omega)
    -- the arc of a first operation
    have h1 : UP n K m la r ((bld n G fi la tx m).arcFirst fi m (tx m)) R := by
      obtain ⟨e1, e2⟩ := arcFirst_len (bld n G fi la tx m) fi m (tx m)
      refine ⟨hR.tx, ?_, by rw [e1]; exact hR.com, fun hn => by rw [e1]; exact hR.no (by rw [← e2]; exact hn), fun l hl => by rw [e1]; exact hR.lt l (by rw [← e2]; exact hl)⟩
      unfold BS.arcFirst
      split
      · exact hR.rk
      · next l hl =>
        split
        · next hf =>
          intro x hx w hw
          by_cases e : x = l
          · subst e
            have hw' : w ∈ (bld n G fi la tx m).f x ++ [tx m] := by simpa [upd_same] using hw
            rcases List.mem_append.1 hw' with h2 | h2
            · exact hR.rk x hx w h2
            · have : w = tx m := by simpa using h2
              subst this
              obtain ⟨M, j, _, ⟨u, hu, hu1, hu2, hu3⟩, hj, hRl, _⟩ := hR.lt x hl
              have h3 := h u (tx m) hu hv (by
                rw [adjP, Bool.or_eq_true]
                right
                simp only [Bool.and_eq_true, decide_eq_true_eq]
                exact ⟨⟨(hfl u).1 hu1, by omega⟩, by omega⟩)
              rw [hR.tx _ hv, hRl]
              have h4 := mul_lt_of (a := 2 * r (tx m) + 1) (b := 2 * M) (K := K) (c := 0) (by omega) (by omega)
              omega
          · have hw' : w ∈ (bld n G fi la tx m).f x := by simpa [upd_other _ _ e] using hw
            exact hR.rk x hx w hw'
        · exact hR.rk
    have hw1 := hwf.first fi m hv
    rw [bld]
    unfold BS.step
    by_cases hc : la (tx m) = (m : Int)
    · rw [if_pos hc]
      generalize (bld n G fi la tx m).arcFirst fi m (tx m) = b at h1 hw1
      obtain ⟨M', j', hM1, hM2, hM3, hj1, hj2, hj3⟩ : ∃ M' j', (∀ u, u < n → 0 ≤ la u → la u < ((m + 1 : Nat) : Int) → M' ≤ r u) ∧ (∃ u, u < n ∧ 0 ≤ la u ∧ la u < ((m + 1 : Nat) : Int) ∧ r u = M') ∧ M' ≤ r (tx m) ∧ j' < m + 1 ∧ j' + n = b.len ∧ (∀ l, b.lt = some l → ∃ M j, R l = 2 * M * K + (K - 1 - j) ∧ M' ≤ M ∧ j < j') := by
        cases hbl : b.lt with
        | none =>
          obtain ⟨g1, g2⟩ := h1.no hbl
          refine ⟨r (tx m), 0, ?_, ⟨tx m, hv, by omega, by omega, rfl⟩, Nat.le_refl _, by omega, by omega, fun l e => by cases e⟩
          intro u hu hu1 hu2
          have h3 : la u = (m : Int) := by have := g2 u hu hu1; omega
          rw [(hla u m h3).2]
          exact Nat.le_refl _
        | some l =>
          obtain ⟨M, j, g1, ⟨u0, g2, g3, g4, g5⟩, g6, g7, g8⟩ := h1.lt l hbl
          refine ⟨min M (r (tx m)), j + 1, ?_, ?_, Nat.min_le_right _ _, by omega, by omega, fun l' e => ?_⟩
          · intro u hu hu1 hu2
            by_cases e : u = tx m
            · subst e; exact Nat.min_le_right _ _
            · have : la u < (m : Int) := by
                rcases Int.lt_or_eq_of_le (show la u ≤ (m : Int) by omega) with h3 | h3
                · exact h3
                · exact absurd (hla u m h3).2.symm e
              exact Nat.le_trans (Nat.min_le_left _ _) (g1 u hu hu1 this)
          · rcases Nat.le_total M (r (tx m)) with h3 | h3
            · exact ⟨u0, g2, g3, by omega, by omega⟩
            · exact ⟨tx m, hv, by omega, by omega, by omega⟩
          · cases e
            exact ⟨M, j, g7, Nat.min_le_left _ _, by omega⟩
      have hbl := hw1.len
      have hKj : j' + 1 ≤ K := by omega
      refine ⟨upd R b.len (2 * M' * K + (K - 1 - j')), ?_, ?_, by show b.len + 1 ≤ n + (m + 1); have := h1.com; omega, (fun hn => by cases hn), ?_⟩
      · intro u hu
        rw [upd_other _ _ (by omega)]
        exact h1.tx u hu
      · have hcv : 2 * M' * K + (K - 1 - j') < R (tx m) := by
          rw [h1.tx _ hv]
          exact mul_lt_of (by omega) (by omega)
        have key : ∀ x, x < b.len + 1 → ∀ w ∈ upd (upd b.f b.len []) (tx m) ((upd b.f b.len []) (tx m) ++ [b.len]) x, upd R b.len (2 * M' * K + (K - 1 - j')) w < upd R b.len (2 * M' * K + (K - 1 - j')) x := by
          intro x hx w hw
          by_cases e : x = tx m
          · subst e
            rw [upd_same, upd_other _ _ (by omega)] at hw
            rw [upd_other (i := b.len) (j := tx m) _ _ (by omega)]
            rcases List.mem_append.1 hw with h3 | h3
            · have h4 := hw1.arcs (tx m) (by omega) w h3
              rw [upd_other _ _ (by omega)]
              exact h1.rk _ (by omega) w h3
            · have : w = b.len := by simpa using h3
              subst this
              rw [upd_same]
              exact hcv
          · rw [upd_other _ _ e] at hw
            by_cases e2 : x = b.len
            · subst e2; rw [upd_same] at hw; cases hw
            · rw [upd_other _ _ e2] at hw ⊢
              have h4 := hw1.arcs x (by omega) w hw
              rw [upd_other _ _ (by omega)]
              exact h1.rk x (by omega) w hw
        intro x hx w hw
        have hx' : x < b.len + 1 := hx
        cases hlt : b.lt with
        | none =>
          simp only [BS.commit, hlt] at hw
          exact key x hx' w hw
        | some l =>
          simp only [BS.commit, hlt] at hw
          by_cases e : x = l
          · subst e
            rw [upd_same] at hw
            rcases List.mem_append.1 hw with h3 | h3
            · exact key x hx' w h3
            · have : w = b.len := by simpa using h3
              subst this
              obtain ⟨M, j, g1, g2, g3⟩ := hj3 x hlt
              have h5 := hw1.lt x hlt
              rw [upd_same, upd_other _ _ (by omega), g1]
              have : 2 * M' * K ≤ 2 * M * K := Nat.mul_le_mul_right K (by omega)
              omega
          · rw [upd_other _ _ e] at hw
            exact key x hx' w hw
      · intro l hl
        have : b.len = l := by simpa [BS.commit] using hl
        subst this
        refine ⟨M', j', hM1, hM2, hj1, by rw [upd_same], ?_⟩
        show j' + n + 1 = b.len + 1
        omega
    · rw [if_neg hc]
      refine ⟨R, h1.tx, h1.rk, by have := h1.com; omega, fun hn => ⟨(h1.no hn).1, fun u hu hu1 hu2 => ?_⟩, fun l hl => ?_⟩
      · refine (h1.no hn).2 u hu hu1 ?_
        rcases Int.lt_or_eq_of_le (show la u ≤ (m : Int) by omega) with h3 | h3
        · exact h3
        · have := (hla u m h3).2
          rw [this] at hc
          exact absurd h3 hc
      obtain ⟨M, j, g1, ⟨u0, g2, g3, g4, g5⟩, g6, g7, g8⟩ := h1.lt l hl
      refine ⟨M, j, fun u hu hu1 hu2 => g1 u hu hu1 ?_, ⟨u0, g2, g3, by omega, g5⟩, by omega, g7, g8⟩
      rcases Int.lt_or_eq_of_le (show la u ≤ (m : Int) by omega) with h3 | h3
      · exact h3
      · have := (hla u m h3).2
        rw [this] at hc
        exact absurd h3 hc
/-- The built graph has a falling rank iff the matrix has one. -/
theorem chain_iff (hG : ∀ v, v < n → ∀ w ∈ G v, w < n ∧ w ≠ v) (htx : ∀ i, i < L → tx i < n) (hfi : ∀ v i : Nat, fi v = (i : Int) → i < L ∧ tx i = v) (hla : ∀ v i : Nat, la v = (i : Int) → i < L ∧ tx i = v) (hfl : ∀ v, 0 ≤ la v ↔ 0 ≤ fi v) : (∃ r, RkB (bld n G fi la tx L) r) ↔ ∃ r, Rk n (adjP G fi la) r := by
  constructor
  · rintro ⟨r, h⟩
    exact ⟨r, rank_down hG htx hfi hla hfl h⟩
  · rintro ⟨r, h⟩
    obtain ⟨R, hR⟩ := rank_up hG htx hla hfl h (L + 1) (by omega) L (Nat.le_refl _)
    exact ⟨R, hR.rk⟩
end
end Go.Proofs.Ybulkegnm
