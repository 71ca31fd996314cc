namespace Go.Proofs.Ybulkegnm

def cntB (p : Nat → Bool) : Nat → Nat
  | 0 => 0
  | n + 1 => cntB p n + (if p n then 1 else 0)
theorem cntB_le (p : Nat → Bool) : ∀ n, cntB p n ≤ n
  | 0 => Nat.le_refl _
  | n + 1 => by have := cntB_le p n; simp only [cntB]; split <;> omega
theorem cntB_congr {p q : Nat → Bool} : ∀ n, (∀ i, i < n → p i = q i) → cntB p n = cntB q n
  | 0, _ => rfl
  | n + 1, h => by simp only [cntB]; rw [cntB_congr n (fun i hi => h i (by omega)), h n (by omega)]
theorem cntB_upd {p q : Nat → Bool} {i : Nat} (hp : p i = false) (hq : q i = true) (ho : ∀ j, j ≠ i → q j = p j) : ∀ n, i < n → cntB q n = cntB p n + 1
  | 0, h => by omega
  | n + 1, h => by
    simp only [cntB]
    by_cases e : i = n
    · subst e
      rw [cntB_congr i (fun j hj => ho j (by omega)), hp, hq]
      simp
    · rw [cntB_upd hp hq ho n (by omega), ho n (fun h => e h.symm)]
      omega
/-- The sum of f over the first n. -/
def sumN (f : Nat → Nat) : Nat → Nat
  | 0 => 0
  | n + 1 => sumN f n + f n
theorem sumN_congr {f g : Nat → Nat} : ∀ n, (∀ i, i < n → f i = g i) → sumN f n = sumN g n
  | 0, _ => rfl
  | n + 1, h => by simp only [sumN]; rw [sumN_congr n (fun i hi => h i (by omega)), h n (by omega)]
theorem sumN_drop {f g : Nat → Nat} {i d : Nat} (hi : f i = g i + d) (ho : ∀ j, j ≠ i → f j = g j) : ∀ n, i < n → sumN f n = sumN g n + d
  | 0, h => by omega
  | n + 1, h => by
    simp only [sumN]
    by_cases e : i = n
    · subst e
      rw [sumN_congr i (fun j hj => ho j (by omega)), hi]
      omega
    · rw [sumN_drop hi ho n (by omega), ho n (fun h => e h.symm)]
      omega
def upd {α : Type} (f : Nat → α) (i : Nat) (v : α) : Nat → α := fun j => if j = i then v else f j
@[simp] theorem upd_same {α : Type} (f : Nat → α) (i : Nat) (v : α) : upd f i v i = v := by simp [upd]
theorem upd_other {α : Type} (f : Nat → α) {i j : Nat} (v : α) (h : j ≠ i) : upd f i v j = f j := by simp [upd, h]

theorem pw_mem {R S : Nat → Nat → Prop} : ∀ {l : List Nat}, (∀ a, a ∈ l → ∀ b, b ∈ l → R a b → S a b) → l.Pairwise R → l.Pairwise S
  | [], _, _ => List.Pairwise.nil
  | a :: l, hRS, h => List.pairwise_cons.2 ⟨fun b hb => hRS a (by simp) b (by simp [hb]) ((List.pairwise_cons.1 h).1 b hb), pw_mem (fun x hx y hy => hRS x (by simp [hx]) y (by simp [hy])) (List.pairwise_cons.1 h).2⟩
/-- The state of Tarjan's walk; 'flag': every component so far was of one node. -/
structure TS where
  vis : Nat → Nat
  low : Nat → Nat
  onS : Nat → Bool
  stk : List Nat
  calls : List (Nat × Nat)
  cnt : Nat
  flag : Bool
def TS.enter (s : TS) (v : Nat) : TS := { s with vis := upd s.vis v (s.cnt + 1), low := upd s.low v (s.cnt + 1), onS := upd s.onS v true, stk := s.stk ++ [v], calls := s.calls ++ [(v, 0)], cnt := s.cnt + 1 }
/-- The frame on top moves on to its next arc. -/
def TS.next (s : TS) (cs : List (Nat × Nat)) (v nx : Nat) : TS := { s with calls := cs ++ [(v, nx + 1)] }
def TS.lower (s : TS) (v x : Nat) : TS := { s with low := upd s.low v (min (s.low v) x) }
/-- The frame on top ends. -/
def TS.drop (s : TS) (cs : List (Nat × Nat)) : TS := { s with calls := cs }
/-- The component v :: post leaves the stack. -/
def TS.pop (s : TS) (pre : List Nat) (v : Nat) (post : List Nat) : TS := { s with stk := pre, onS := fun x => s.onS x && !((v :: post).contains x), flag := s.flag && post.isEmpty }

section
variable (N : Nat) (deg : Nat → Nat) (arc : Nat → Nat → Nat)
structure Base (s : TS) : Prop where
  vle : ∀ v, s.vis v ≤ s.cnt
  on : ∀ v, s.onS v = true ↔ v ∈ s.stk
  stN : ∀ v ∈ s.stk, v < N
  sv : ∀ v ∈ s.stk, s.vis v ≠ 0
  mono : s.stk.Pairwise (fun a b => s.vis a < s.vis b)
  sub : (s.calls.map (·.1)).Sublist s.stk
  nx : ∀ c ∈ s.calls, c.2 ≤ deg c.1
  cn : s.cnt = cntB (fun v => s.vis v != 0) N
  hd : s.calls = [] → s.stk = []
  hd2 : ∀ c cs, s.calls = c :: cs → ∃ st, s.stk = c.1 :: st
  lowb : ∀ r st, s.stk = r :: st → ∀ x ∈ s.stk, s.vis r ≤ s.low x ∧ s.low x ≤ s.vis x
/-- The loop's measure. -/
def meas (s : TS) : Nat := sumN (fun v => if s.vis v = 0 then deg v + 2 else 0) N + (s.calls.map (fun c => deg c.1 - c.2 + 1)).sum
/-- With a rank that falls along arcs: every component is one node. -/
structure AI (r : Nat → Nat) (s : TS) : Prop where
  fl : s.flag = true
  st : s.stk = s.calls.map (·.1)
  lo : ∀ x ∈ s.stk, s.low x = s.vis x
  fall : s.stk.Pairwise (fun a b => r b < r a)
/-- While every component was one node: the pop times fall along the arcs of what was popped. -/
structure BI (s : TS) (pt : Nat → Nat) (pc : Nat) : Prop where
  fr : ∀ c ∈ s.calls, ∀ j, j < c.2 → s.vis (arc c.1 j) ≠ 0 ∧ (s.onS (arc c.1 j) = true → s.vis c.1 < s.vis (arc c.1 j) ∨ (s.low c.1 ≤ s.vis (arc c.1 j) ∧ s.vis (arc c.1 j) < s.vis c.1))
  po : ∀ v, s.vis v ≠ 0 → s.onS v = false → pt v < pc ∧ ∀ j, j < deg v → s.vis (arc v j) ≠ 0 ∧ s.onS (arc v j) = false ∧ pt (arc v j) < pt v
def BIx (s : TS) : Prop := s.flag = true → ∃ pt pc, BI deg arc s pt pc
end

variable {N : Nat} {deg : Nat → Nat} {arc : Nat → Nat → Nat} {s : TS}
namespace Base
theorem nodup (h : Base N deg s) : s.stk.Nodup := by
  refine pw_mem (fun a _ b _ hab => ?_) h.mono
  intro e
  subst e
  omega
theorem mem (h : Base N deg s) {c : Nat × Nat} (hc : c ∈ s.calls) : c.1 ∈ s.stk := h.sub.subset (List.mem_map.2 ⟨c, hc, rfl⟩)
theorem cntN (h : Base N deg s) : s.cnt ≤ N := by rw [h.cn]; exact cntB_le _ _
theorem cntlt (h : Base N deg s) {v : Nat} (hv : v < N) (h0 : s.vis v = 0) : s.cnt < N := by
  have h1 := cntB_upd (p := fun v => s.vis v != 0) (q := fun x => if x = v then true else s.vis x != 0) (i := v) (by simp [h0]) (by simp) (fun j hj => by simp [hj]) N hv
  have h2 := cntB_le (fun x => if x = v then true else s.vis x != 0) N
  rw [h.cn]
  omega
theorem enter (h : Base N deg s) {v : Nat} (hv : v < N) (h0 : s.vis v = 0) (hc : s.calls = [] → s.stk = []) : Base N deg (s.enter v) := by
  have hns : v ∉ s.stk := fun hm => h.sv v hm h0
  have hne : ∀ x ∈ s.stk, x ≠ v := fun x hx e => hns (e ▸ hx)
  refine ⟨?_, ?_, ?_, ?_, ?_, ?_, ?_, ?_, ?_, ?_, ?_⟩
  · intro x
    show upd s.vis v (s.cnt + 1) x ≤ s.cnt + 1
    by_cases e : x = v
    · rw [e, upd_same]; exact Nat.le_refl _
    · rw [upd_other _ _ e]; have := h.vle x; omega
  · intro x
    show upd s.onS v true x = true ↔ x ∈ s.stk ++ [v]
    by_cases e : x = v
    · subst e; simp
    · rw [upd_other _ _ e, h.on x]; simp [e]
  · intro x hx
    rcases List.mem_append.1 hx with h1 | h1
    · exact h.stN x h1
    · simp at h1; rw [h1]; exact hv
  · intro x hx
    show upd s.vis v (s.cnt + 1) x ≠ 0
    rcases List.mem_append.1 hx with h1 | h1
    · rw [upd_other _ _ (hne x h1)]; exact h.sv x h1
    · simp at h1; rw [h1, upd_same]; omega
  · show (s.stk ++ [v]).Pairwise (fun a b => upd s.vis v (s.cnt + 1) a < upd s.vis v (s.cnt + 1) b)
    rw [List.pairwise_append]
    refine ⟨?_, by simp, ?_⟩
    · refine pw_mem (fun a ha b hb hab => ?_) h.mono
      rw [upd_other _ _ (hne a ha), upd_other _ _ (hne b hb)]
      exact hab
    · intro a ha b hb
      simp at hb
      subst hb
      rw [upd_other _ _ (hne a ha), upd_same]
      have := h.vle a
      omega
  · show ((s.calls ++ [((v, 0) : Nat × Nat)]).map (fun c : Nat × Nat => c.1)).Sublist (s.stk ++ [v])
    rw [List.map_append]
    exact h.sub.append (List.Sublist.refl _)
  · intro c hc
    rcases List.mem_append.1 hc with h1 | h1
    · exact h.nx c h1
    · simp at h1; subst h1; exact Nat.zero_le _
  · show s.cnt + 1 = cntB (fun x => upd s.vis v (s.cnt + 1) x != 0) N
    rw [h.cn]
    exact (cntB_upd (i := v) (by simp [h0]) (by simp) (fun j hj => by simp [upd_other _ _ hj]) N hv).symm
  · intro he
    simp [TS.enter] at he
  · intro c cs he
    cases hcs : s.calls with
    | nil =>
      have hst := hc hcs
      have : c = (v, 0) := by
        simp [TS.enter, hcs] at he
        exact he.1.symm
      subst this
      exact ⟨[], by simp [TS.enter, hst]⟩
    | cons c0 cs0 =>
      obtain ⟨st, e⟩ := h.hd2 c0 cs0 hcs
      have : c = c0 := by
        simp [TS.enter, hcs] at he
        exact he.1.symm
      subst this
      exact ⟨st ++ [v], by simp [TS.enter, e]⟩
  · intro r st he x hx
    show upd s.vis v (s.cnt + 1) r ≤ upd s.low v (s.cnt + 1) x ∧ upd s.low v (s.cnt + 1) x ≤ upd s.vis v (s.cnt + 1) x
    cases hst : s.stk with
    | nil =>
      have he' : r = v ∧ st = [] := by simp [TS.enter, hst] at he; exact ⟨he.1.symm, he.2⟩
      have hx' : x = v := by simp [TS.enter, hst] at hx; exact hx
      rw [he'.1, hx', upd_same, upd_same]
      exact ⟨Nat.le_refl _, Nat.le_refl _⟩
    | cons r0 st0 =>
      have he' : r = r0 := by simp [TS.enter, hst] at he; exact he.1.symm
      subst he'
      have hr : r ∈ s.stk := by rw [hst]; simp
      rcases List.mem_append.1 hx with h1 | h1
      · rw [upd_other _ _ (hne r hr), upd_other _ _ (hne x h1), upd_other _ _ (hne x h1)]
        exact h.lowb r st0 hst x h1
      · simp at h1
        subst h1
        rw [upd_other _ _ (hne r hr), upd_same, upd_same]
        have := h.vle r
        exact ⟨by omega, Nat.le_refl _⟩
theorem next (h : Base N deg s) {cs : List (Nat × Nat)} {v nx : Nat} (hc : s.calls = cs ++ [(v, nx)]) (hn : nx < deg v) : Base N deg (s.next cs v nx) := by
  have hmap : (cs ++ [(v, nx + 1)]).map (·.1) = s.calls.map (·.1) := by rw [hc]; simp
  refine ⟨h.vle, h.on, h.stN, h.sv, h.mono, by show ((cs ++ [(v, nx + 1)]).map (·.1)).Sublist s.stk; rw [hmap]; exact h.sub, ?_, h.cn, ?_, ?_, h.lowb⟩
  · intro c hcc
    rcases List.mem_append.1 hcc with h1 | h1
    · exact h.nx c (by rw [hc]; exact List.mem_append_left _ h1)
    · simp at h1; subst h1; exact hn
  · intro he
    simp [TS.next] at he
  · intro c cs' he
    cases cs with
    | nil =>
      have : c = (v, nx + 1) := by simp [TS.next] at he; exact he.1.symm
      subst this
      exact h.hd2 (v, nx) [] hc
    | cons c0 cs0 =>
      have : c = c0 := by simp [TS.next] at he; exact he.1.symm
      subst this
      exact h.hd2 c (cs0 ++ [(v, nx)]) (by rw [hc]; rfl)
theorem lower (h : Base N deg s) {v : Nat} {x : Nat} (hx : ∀ r st, s.stk = r :: st → s.vis r ≤ x) : Base N deg (s.lower v x) := by
  refine ⟨h.vle, h.on, h.stN, h.sv, h.mono, h.sub, h.nx, h.cn, h.hd, h.hd2, ?_⟩
  intro r st he y hy
  show s.vis r ≤ upd s.low v (min (s.low v) x) y ∧ upd s.low v (min (s.low v) x) y ≤ s.vis y
  have := h.lowb r st he y hy
  by_cases e : y = v
  · subst e
    rw [upd_same]
    have := hx r st he
    omega
  · rw [upd_other _ _ e]
    exact this
theorem rootOf (h : Base N deg s) {v nx : Nat} (hc : s.calls = [(v, nx)]) : s.low v = s.vis v := by
  obtain ⟨st, e⟩ := h.hd2 (v, nx) [] hc
  have := h.lowb v st e v (by rw [e]; simp)
  omega
theorem drop (h : Base N deg s) {cs : List (Nat × Nat)} {v nx : Nat} (hc : s.calls = cs ++ [(v, nx)]) (hl : s.low v ≠ s.vis v) : Base N deg (s.drop cs) := by
  refine ⟨h.vle, h.on, h.stN, h.sv, h.mono, ?_, ?_, h.cn, ?_, ?_, h.lowb⟩
  · refine List.Sublist.trans ?_ h.sub
    rw [hc, List.map_append]
    exact List.sublist_append_left _ _
  · intro c hcc
    exact h.nx c (by rw [hc]; exact List.mem_append_left _ hcc)
  · intro he
    have he' : cs = [] := he
    subst he'
    exact absurd (h.rootOf hc) hl
  · intro c cs' he
    have he' : cs = c :: cs' := he
    subst he'
    exact h.hd2 c (cs' ++ [(v, nx)]) (by rw [hc]; rfl)
theorem sub_pre {xs pre post : List Nat} {v : Nat} (hs : (xs ++ [v]).Sublist (pre ++ v :: post)) (hn : (pre ++ v :: post).Nodup) : xs.Sublist pre := by
  obtain ⟨l1, l2, he, h1, h2⟩ := List.sublist_append_iff.1 hs
  rw [List.nodup_append] at hn
  obtain ⟨_, hn2, hn3⟩ := hn
  rcases List.eq_nil_or_concat l2 with e | ⟨l2', a, e⟩
  · subst e
    rw [List.append_nil] at he
    have : v ∈ pre := h1.subset (by rw [← he]; simp)
    exact absurd rfl (hn3 v this v (by simp))
  · rw [List.concat_eq_append] at e
    subst e
    rw [← List.append_assoc] at he
    obtain ⟨e1, e2⟩ := List.append_inj' he rfl
    have ea : v = a := by simpa using e2
    subst ea
    have hl2 : l2' = [] := by
      cases l2' with
      | nil => rfl
      | cons b l =>
        exfalso
        have hv : v ∉ post := (List.nodup_cons.1 hn2).1
        cases h2 with
        | cons _ h3 => exact hv (h3.subset (by simp))
        | cons_cons _ h3 => exact hv (h3.subset (by simp))
    subst hl2
    rw [e1, List.append_nil]
    exact h1
/-- The component on top leaves. 'L': the lows, one of them lowered to no less than the bottom's visit. -/
theorem pop (h : Base N deg s) {cs : List (Nat × Nat)} {v nx : Nat} (hc : s.calls = cs ++ [(v, nx)]) {pre post : List Nat} (hst : s.stk = pre ++ v :: post) (L : Nat → Nat) (hL : ∀ x ∈ pre, (∀ r st, s.stk = r :: st → s.vis r ≤ L x) ∧ L x ≤ s.vis x) :
    Base N deg ({ s with calls := cs, low := L }.pop pre v post) := by
  have hn := h.nodup
  have hsub : (cs.map (·.1)).Sublist pre := by
    have := h.sub
    rw [hc, hst, List.map_append] at this
    rw [hst] at hn
    exact sub_pre this hn
  have hm : s.stk.Pairwise (fun a b => s.vis a < s.vis b) := h.mono
  rw [hst] at hm hn
  have hmem : ∀ x ∈ pre, x ∈ s.stk := fun x hx => by rw [hst]; exact List.mem_append_left _ hx
  refine ⟨h.vle, ?_, fun x hx => h.stN x (hmem x hx), fun x hx => h.sv x (hmem x hx), (List.pairwise_append.1 hm).1, hsub, ?_, h.cn, ?_, ?_, ?_⟩
  · intro x
    show (s.onS x && !((v :: post).contains x)) = true ↔ x ∈ pre
    rw [Bool.and_eq_true, h.on x, hst]
    have hn3 := (List.nodup_append.1 hn).2.2
    constructor
    · rintro ⟨h1, h2⟩
      rcases List.mem_append.1 h1 with h3 | h3
      · exact h3
      · simp at h2
        rcases List.mem_cons.1 h3 with h4 | h4
        · exact absurd h4 h2.1
        · exact absurd h4 h2.2
    · intro hx
      refine ⟨List.mem_append_left _ hx, ?_⟩
      simp
      exact ⟨fun e => hn3 x hx v (by simp) e, fun e => hn3 x hx x (by simp [e]) rfl⟩
  · intro c hcc
    exact h.nx c (by rw [hc]; exact List.mem_append_left _ hcc)
  · intro he
    have he' : cs = [] := he
    subst he'
    obtain ⟨st, e⟩ := h.hd2 (v, nx) [] hc
    rw [hst] at e
    show pre = []
    cases pre with
    | nil => rfl
    | cons a pre' =>
      exfalso
      have : a = v := by simpa using (List.cons.inj e).1
      subst this
      exact (List.nodup_append.1 hn).2.2 a (by simp) a (by simp) rfl
  · intro c cs' he
    have he' : cs = c :: cs' := he
    subst he'
    obtain ⟨st, e⟩ := h.hd2 c (cs' ++ [(v, nx)]) (by rw [hc]; rfl)
    have hcp : c.1 ∈ pre := hsub.subset (by simp)
    show ∃ st, pre = c.1 :: st
    cases pre with
    | nil => cases hcp
    | cons a pre' =>
      rw [hst] at e
      exact ⟨pre', by rw [(List.cons.inj e).1]⟩
  · intro r st he x hx
    have he' : pre = r :: st := he
    have hx' : x ∈ pre := hx
    exact ⟨(hL x hx').1 r (st ++ v :: post) (by rw [hst, he']; rfl), (hL x hx').2⟩
end Base

/-- The lows when the frame of v ends: its parent's is lowered to v's. -/
def TS.lowP (s : TS) (cs : List (Nat × Nat)) (v : Nat) : Nat → Nat := match cs.getLast? with
  | none => s.low
  | some c => upd s.low c.1 (min (s.low c.1) (s.low v))
theorem lowP_nil (s : TS) (v : Nat) : s.lowP [] v = s.low := rfl
theorem lowP_snoc (s : TS) (cs : List (Nat × Nat)) (p pn v : Nat) : s.lowP (cs ++ [(p, pn)]) v = upd s.low p (min (s.low p) (s.low v)) := by simp [TS.lowP]
theorem lowP_le (s : TS) (cs : List (Nat × Nat)) (v x : Nat) : s.lowP cs v x ≤ s.low x := by
  rcases List.eq_nil_or_concat cs with e | ⟨cs', c, e⟩
  · subst e; rw [lowP_nil]; exact Nat.le_refl _
  · rw [List.concat_eq_append] at e
    subst e
    obtain ⟨p, pn⟩ := c
    rw [lowP_snoc]
    by_cases e : x = p
    · subst e; rw [upd_same]; omega
    · rw [upd_other _ _ e]; exact Nat.le_refl _
/-- The frame of v has ended, and v is no root. -/
def TS.ended (s : TS) (cs : List (Nat × Nat)) (v : Nat) : TS := { s with calls := cs, low := s.lowP cs v }
theorem Base.ended (h : Base N deg s) {cs : List (Nat × Nat)} {v nx : Nat} (hc : s.calls = cs ++ [(v, nx)]) (hl : s.low v ≠ s.vis v) : Base N deg (s.ended cs v) := by
  have hv : v ∈ s.stk := h.mem (c := (v, nx)) (by rw [hc]; simp)
  rcases List.eq_nil_or_concat cs with e | ⟨cs', c, e⟩
  · subst e; exact absurd (h.rootOf hc) hl
  · rw [List.concat_eq_append] at e
    obtain ⟨p, pn⟩ := c
    have := (h.drop hc hl).lower (v := p) (x := s.low v) (fun r st e2 => (h.lowb r st e2 v hv).1)
    have e3 : s.ended cs v = (s.drop cs).lower p (s.low v) := by
      subst e
      simp only [TS.ended, lowP_snoc, TS.lower, TS.drop]
    rw [e3]
    exact this
theorem Base.popP (h : Base N deg s) {cs : List (Nat × Nat)} {v nx : Nat} (hc : s.calls = cs ++ [(v, nx)]) {pre post : List Nat} (hst : s.stk = pre ++ v :: post) : Base N deg ((s.ended cs v).pop pre v post) := by
  have hv : v ∈ s.stk := h.mem (c := (v, nx)) (by rw [hc]; simp)
  refine h.pop hc hst _ (fun x hx => ?_)
  have hxs : x ∈ s.stk := by rw [hst]; exact List.mem_append_left _ hx
  have h0 : ∀ r st, s.stk = r :: st → s.vis r ≤ s.lowP cs v x := by
    intro r st e
    have h1 := h.lowb r st e x hxs
    have h2 := h.lowb r st e v hv
    rcases List.eq_nil_or_concat cs with e | ⟨cs', c, e⟩
    · subst e; rw [lowP_nil]; exact h1.1
    · rw [List.concat_eq_append] at e
      subst e
      obtain ⟨p, pn⟩ := c
      rw [lowP_snoc]
      by_cases e : x = p
      · subst e; rw [upd_same]; omega
      · rw [upd_other _ _ e]; exact h1.1
  refine ⟨h0, ?_⟩
  cases hs : s.stk with
  | nil => rw [hs] at hxs; cases hxs
  | cons r st => exact Nat.le_trans (lowP_le s cs v x) (h.lowb r st hs x hxs).2

/-! The measure falls. -/
theorem sum_map_append (f : Nat × Nat → Nat) (a b : List (Nat × Nat)) : ((a ++ b).map f).sum = (a.map f).sum + (b.map f).sum := by simp
theorem meas_next {cs : List (Nat × Nat)} {v nx : Nat} (hc : s.calls = cs ++ [(v, nx)]) (hn : nx < deg v) : meas N deg (s.next cs v nx) < meas N deg s := by
  have e1 : meas N deg (s.next cs v nx) = sumN (fun x => if s.vis x = 0 then deg x + 2 else 0) N + ((cs ++ [((v, nx + 1) : Nat × Nat)]).map (fun c : Nat × Nat => deg c.1 - c.2 + 1)).sum := rfl
  have e2 : meas N deg s = sumN (fun x => if s.vis x = 0 then deg x + 2 else 0) N + (s.calls.map (fun c : Nat × Nat => deg c.1 - c.2 + 1)).sum := rfl
  rw [e1, e2, hc, sum_map_append, sum_map_append]
  simp only [List.map_cons, List.map_nil, List.sum_cons, List.sum_nil]
  omega
theorem meas_enter {v : Nat} (hv : v < N) (h0 : s.vis v = 0) : meas N deg (s.enter v) < meas N deg s := by
  unfold meas
  have := sumN_drop (f := fun x => if s.vis x = 0 then deg x + 2 else 0) (g := fun x => if (s.enter v).vis x = 0 then deg x + 2 else 0) (i := v) (d := deg v + 2) (by simp [h0, TS.enter]) (fun j hj => by simp [TS.enter, upd_other _ _ hj]) N hv
  rw [this]
  simp only [TS.enter, sum_map_append, List.map_cons, List.map_nil, List.sum_cons, List.sum_nil]
  omega
theorem meas_ended {cs : List (Nat × Nat)} {v nx : Nat} (hc : s.calls = cs ++ [(v, nx)]) : meas N deg (s.ended cs v) < meas N deg s := by
  have e1 : meas N deg (s.ended cs v) = sumN (fun x => if s.vis x = 0 then deg x + 2 else 0) N + (cs.map (fun c : Nat × Nat => deg c.1 - c.2 + 1)).sum := rfl
  have e2 : meas N deg s = sumN (fun x => if s.vis x = 0 then deg x + 2 else 0) N + (s.calls.map (fun c : Nat × Nat => deg c.1 - c.2 + 1)).sum := rfl
  rw [e1, e2, hc, sum_map_append]
  simp only [List.map_cons, List.map_nil, List.sum_cons, List.sum_nil]
  omega
theorem meas_pop {pre post : List Nat} {v : Nat} : meas N deg (s.pop pre v post) = meas N deg s := rfl
theorem meas_lower {v x : Nat} : meas N deg (s.lower v x) = meas N deg s := rfl

/-! A: with a falling rank. -/
section
variable {r : Nat → Nat}
theorem AI.enter0 (h : AI r s) (hst : s.stk = []) (hc : s.calls = []) (v : Nat) : AI r (s.enter v) := by
  refine ⟨h.fl, by simp [TS.enter, hst, hc], fun x hx => ?_, by simp [TS.enter, hst]⟩
  have : x = v := by simpa [TS.enter, hst] using hx
  subst this
  simp [TS.enter]
theorem AI.next (h : AI r s) {cs : List (Nat × Nat)} {v nx : Nat} (hc : s.calls = cs ++ [(v, nx)]) : AI r (s.next cs v nx) :=
  ⟨h.fl, by show s.stk = (cs ++ [((v, nx + 1) : Nat × Nat)]).map (fun c : Nat × Nat => c.1); rw [h.st, hc]; simp, h.lo, h.fall⟩
theorem AI.top (h : AI r s) {cs : List (Nat × Nat)} {v nx : Nat} (hc : s.calls = cs ++ [(v, nx)]) : ∀ x ∈ s.stk, r v ≤ r x := by
  intro x hx
  have hst := h.st
  rw [hc, List.map_append] at hst
  have hf := h.fall
  rw [hst] at hf hx
  rcases List.mem_append.1 hx with h1 | h1
  · exact Nat.le_of_lt ((List.pairwise_append.1 hf).2.2 x h1 v (by simp))
  · have : x = v := by simpa using h1
    rw [this]; exact Nat.le_refl _
theorem AI.noback (hr : ∀ v j, v < N → j < deg v → r (arc v j) < r v) (h : AI r s) {cs : List (Nat × Nat)} {v nx : Nat} (hc : s.calls = cs ++ [(v, nx)]) (hv : v < N) (hn : nx < deg v) : arc v nx ∉ s.stk := by
  intro hm
  have h1 := h.top hc _ hm
  have h2 := hr v nx hv hn
  omega
theorem AI.enter (hr : ∀ v j, v < N → j < deg v → r (arc v j) < r v) (hb : Base N deg s) (h : AI r s) {cs : List (Nat × Nat)} {v nx : Nat} (hc : s.calls = cs ++ [(v, nx)]) (hv : v < N) (hn : nx < deg v) (h0 : s.vis (arc v nx) = 0) : AI r ((s.next cs v nx).enter (arc v nx)) := by
  have hns : ∀ x ∈ s.stk, x ≠ arc v nx := fun x hx e => hb.sv x hx (e ▸ h0)
  refine ⟨h.fl, ?_, fun x hx => ?_, ?_⟩
  · have := (h.next hc).st
    show (s.next cs v nx).stk ++ [arc v nx] = ((s.next cs v nx).calls ++ [((arc v nx, 0) : Nat × Nat)]).map (fun c : Nat × Nat => c.1)
    rw [List.map_append, this]
    simp
  · show upd s.low (arc v nx) (s.cnt + 1) x = upd s.vis (arc v nx) (s.cnt + 1) x
    rcases List.mem_append.1 hx with h1 | h1
    · rw [upd_other _ _ (hns x h1), upd_other _ _ (hns x h1)]; exact h.lo x h1
    · have : x = arc v nx := by simpa using h1
      rw [this, upd_same, upd_same]
  · show (s.stk ++ [arc v nx]).Pairwise (fun a b => r b < r a)
    rw [List.pairwise_append]
    refine ⟨h.fall, by simp, fun a ha b hb' => ?_⟩
    have : b = arc v nx := by simpa using hb'
    subst this
    have h1 := h.top hc a ha
    have h2 := hr v nx hv hn
    omega
theorem AI.pop (hb : Base N deg s) (h : AI r s) {cs : List (Nat × Nat)} {v nx : Nat} (hc : s.calls = cs ++ [(v, nx)]) {pre post : List Nat} (hst : s.stk = pre ++ v :: post) : AI r ((s.ended cs v).pop pre v post) := by
  have h1 : s.stk = cs.map (·.1) ++ [v] := by rw [h.st, hc]; simp
  have hn := hb.nodup
  have hpp : pre = cs.map (·.1) ∧ post = [] := by
    have hs : (cs.map (·.1) ++ [v]).Sublist (pre ++ v :: post) := by rw [← h1, hst]; exact List.Sublist.refl _
    have h2 := Base.sub_pre hs (by rw [← hst]; exact hn)
    have h3 : (pre ++ [v]).Sublist (cs.map (·.1) ++ v :: []) := by
      rw [← h1, hst]
      exact List.Sublist.append (List.Sublist.refl _) (by simp)
    have h4 := Base.sub_pre h3 (by rw [← h1]; exact hn)
    have h5 : pre = cs.map (·.1) := h4.eq_of_length_le h2.length_le
    refine ⟨h5, ?_⟩
    rw [hst, h5] at h1
    have := List.append_cancel_left h1
    simpa using this
  obtain ⟨e1, e2⟩ := hpp
  subst e2
  have hm := hb.mono
  rw [h1] at hm
  refine ⟨by simp [TS.pop, TS.ended, h.fl], e1, fun x hx => ?_, ?_⟩
  · have hx' : x ∈ pre := hx
    have hxs : x ∈ s.stk := by rw [hst]; exact List.mem_append_left _ hx'
    have hvs : v ∈ s.stk := by rw [hst]; simp
    show s.lowP cs v x = s.vis x
    rcases List.eq_nil_or_concat cs with e | ⟨cs', c, e⟩
    · subst e; rw [lowP_nil]; exact h.lo x hxs
    · rw [List.concat_eq_append] at e
      subst e
      obtain ⟨p, pn⟩ := c
      rw [lowP_snoc]
      by_cases e : x = p
      · subst e
        rw [upd_same, h.lo x hxs, h.lo v hvs]
        have h6 := (List.pairwise_append.1 hm).2.2 x (by rw [← e1]; exact hx') v (by simp)
        have h7 : s.vis x < s.vis v := h6
        omega
      · rw [upd_other _ _ e]; exact h.lo x hxs
  · have hf := h.fall
    rw [hst] at hf
    exact (List.pairwise_append.1 hf).1
end

/-! B: the pop times. -/
section
theorem BI.enter (hb : Base N deg s) {pt : Nat → Nat} {pc : Nat} (h : BI deg arc s pt pc) {w : Nat} (h0 : s.vis w = 0) : BI deg arc (s.enter w) pt pc := by
  have hns : ∀ x ∈ s.stk, x ≠ w := fun x hx e => hb.sv x hx (e ▸ h0)
  refine ⟨?_, ?_⟩
  · intro c hc j hj
    rcases List.mem_append.1 hc with h1 | h1
    · obtain ⟨h2, h3⟩ := h.fr c h1 j hj
      have e1 : arc c.1 j ≠ w := fun e => h2 (e ▸ h0)
      have e2 : c.1 ≠ w := hns _ (hb.mem h1)
      show upd s.vis w (s.cnt + 1) (arc c.1 j) ≠ 0 ∧ (upd s.onS w true (arc c.1 j) = true → upd s.vis w (s.cnt + 1) c.1 < upd s.vis w (s.cnt + 1) (arc c.1 j) ∨ (upd s.low w (s.cnt + 1) c.1 ≤ upd s.vis w (s.cnt + 1) (arc c.1 j) ∧ upd s.vis w (s.cnt + 1) (arc c.1 j) < upd s.vis w (s.cnt + 1) c.1))
      rw [upd_other _ _ e1, upd_other _ _ e1, upd_other _ _ e2, upd_other _ _ e2]
      exact ⟨h2, h3⟩
    · have : c = (w, 0) := by simpa using h1
      subst this
      exact absurd hj (by simp)
  · intro v hv hon
    have e1 : v ≠ w := by
      intro e
      subst e
      have : upd s.onS v true v = false := hon
      simp at this
    have hv' : upd s.vis w (s.cnt + 1) v ≠ 0 := hv
    have hon' : upd s.onS w true v = false := hon
    rw [upd_other _ _ e1] at hv' hon'
    obtain ⟨h2, h3⟩ := h.po v hv' hon'
    refine ⟨h2, fun j hj => ?_⟩
    obtain ⟨h4, h5, h6⟩ := h3 j hj
    have e2 : arc v j ≠ w := fun e => h4 (e ▸ h0)
    show upd s.vis w (s.cnt + 1) (arc v j) ≠ 0 ∧ upd s.onS w true (arc v j) = false ∧ _
    rw [upd_other _ _ e2, upd_other _ _ e2]
    exact ⟨h4, h5, h6⟩
/-- The arc read is known. -/
theorem BI.next {pt : Nat → Nat} {pc : Nat} (h : BI deg arc s pt pc) {cs : List (Nat × Nat)} {v nx : Nat} (hc : s.calls = cs ++ [(v, nx)]) (hw : s.vis (arc v nx) ≠ 0 ∧ (s.onS (arc v nx) = true → s.vis v < s.vis (arc v nx) ∨ (s.low v ≤ s.vis (arc v nx) ∧ s.vis (arc v nx) < s.vis v))) : BI deg arc (s.next cs v nx) pt pc := by
  refine ⟨?_, h.po⟩
  intro c hcc j hj
  rcases List.mem_append.1 hcc with h1 | h1
  · exact h.fr c (by rw [hc]; exact List.mem_append_left _ h1) j hj
  · have : c = (v, nx + 1) := by simpa using h1
    subst this
    by_cases e : j = nx
    · subst e; exact hw
    · exact h.fr (v, nx) (by rw [hc]; simp) j (by simp at hj ⊢; omega)
/-- Lows only fall. -/
theorem BI.lows {pt : Nat → Nat} {pc : Nat} (h : BI deg arc s pt pc) (L : Nat → Nat) (hL : ∀ x, L x ≤ s.low x) : BI deg arc { s with low := L } pt pc := by
  refine ⟨?_, h.po⟩
  intro c hc j hj
  obtain ⟨h1, h2⟩ := h.fr c hc j hj
  refine ⟨h1, fun hon => ?_⟩
  rcases h2 hon with h3 | h3
  · exact .inl h3
  · exact .inr ⟨Nat.le_trans (hL c.1) h3.1, h3.2⟩
theorem BI.less {pt : Nat → Nat} {pc : Nat} (h : BI deg arc s pt pc) {cs : List (Nat × Nat)} (hs : ∀ c ∈ cs, c ∈ s.calls) : BI deg arc { s with calls := cs } pt pc :=
  ⟨fun c hc => h.fr c (hs c hc), h.po⟩
/-- v leaves the stack alone. -/
theorem BI.pop1 (hg : ∀ v j, v < N → j < deg v → arc v j < N ∧ arc v j ≠ v) (hb : Base N deg s) {pt : Nat → Nat} {pc : Nat} (h : BI deg arc s pt pc) {cs : List (Nat × Nat)} {v : Nat} (hc : s.calls = cs ++ [(v, deg v)]) (hl : s.low v = s.vis v) {pre : List Nat} (hst : s.stk = pre ++ [v]) : BI deg arc ((s.ended cs v).pop pre v []) (upd pt v pc) (pc + 1) := by
  have hvs : v ∈ s.stk := by rw [hst]; simp
  have hvN := hb.stN v hvs
  have hov : s.onS v = true := (hb.on v).2 hvs
  have hb2 := (h.lows (s.lowP cs v) (fun x => lowP_le s cs v x)).less (cs := cs) (fun c hcc => by rw [hc]; exact List.mem_append_left _ hcc)
  have hm := hb.mono
  rw [hst] at hm
  have key : ∀ j, j < deg v → s.vis (arc v j) ≠ 0 ∧ s.onS (arc v j) = false := by
    intro j hj
    obtain ⟨h1, h2⟩ := h.fr (v, deg v) (by rw [hc]; simp) j hj
    refine ⟨h1, ?_⟩
    cases ho : s.onS (arc v j) with
    | false => rfl
    | true =>
      exfalso
      have hws := (hb.on _).1 ho
      rw [hst] at hws
      have hle : s.vis (arc v j) ≤ s.vis v := by
        rcases List.mem_append.1 hws with h3 | h3
        · exact Nat.le_of_lt ((List.pairwise_append.1 hm).2.2 _ h3 v (by simp))
        · have : arc v j = v := by simpa using h3
          rw [this]; exact Nat.le_refl _
      rcases h2 ho with h3 | h3
      · have h4 : s.vis v < s.vis (arc v j) := h3
        omega
      · have h4 : s.low v ≤ s.vis (arc v j) := h3.1
        have h5 : s.vis (arc v j) < s.vis v := h3.2
        omega
  refine ⟨?_, ?_⟩
  · intro c hcc j hj
    obtain ⟨h1, h2⟩ := hb2.fr c hcc j hj
    refine ⟨h1, fun hon => h2 ?_⟩
    have : (s.onS (arc c.1 j) && !([v].contains (arc c.1 j))) = true := hon
    rw [Bool.and_eq_true] at this
    exact this.1
  · intro x hx hon
    have hon' : (s.onS x && !([v].contains x)) = false := hon
    by_cases e : x = v
    · subst e
      rw [upd_same]
      refine ⟨by omega, fun j hj => ?_⟩
      obtain ⟨h1, h2⟩ := key j hj
      have hne : arc x j ≠ x := (hg x j hvN hj).2
      rw [upd_other _ _ hne]
      refine ⟨h1, ?_, (h.po _ h1 h2).1⟩
      show (s.onS (arc x j) && _) = false
      rw [h2]; rfl
    · have hox : s.onS x = false := by
        have : [v].contains x = false := by simp [e]
        rw [this] at hon'
        simpa using hon'
      obtain ⟨h1, h2⟩ := h.po x hx hox
      rw [upd_other _ _ e]
      refine ⟨by omega, fun j hj => ?_⟩
      obtain ⟨h3, h4, h5⟩ := h2 j hj
      have hne : arc x j ≠ v := by
        intro e2
        rw [e2, hov] at h4
        cases h4
      rw [upd_other _ _ hne]
      refine ⟨h3, ?_, h5⟩
      show (s.onS (arc x j) && _) = false
      rw [h4]; rfl
end

/-! All together. -/
def AIx (N : Nat) (deg : Nat → Nat) (arc : Nat → Nat → Nat) (s : TS) : Prop := ∀ r : Nat → Nat, (∀ v j, v < N → j < deg v → r (arc v j) < r v) → AI r s
structure Inv (N : Nat) (deg : Nat → Nat) (arc : Nat → Nat → Nat) (s : TS) : Prop where
  b : Base N deg s
  a : AIx N deg arc s
  p : BIx deg arc s
namespace Inv
theorem start (N : Nat) (deg : Nat → Nat) (arc : Nat → Nat → Nat) : Inv N deg arc ⟨fun _ => 0, fun _ => 0, fun _ => false, [], [], 0, true⟩ := by
  refine ⟨⟨fun _ => Nat.le_refl _, (fun v => by simp), (fun v h => by cases h), (fun v h => by cases h), List.Pairwise.nil, List.Sublist.refl _, (fun c h => by cases h), ?_, fun _ => rfl, (fun c cs h => by cases h), (fun r st h => by cases h)⟩, fun r _ => ⟨rfl, rfl, (fun x h => by cases h), List.Pairwise.nil⟩, fun _ => ⟨fun _ => 0, 0, (fun c h => by cases h), fun v h => absurd rfl h⟩⟩
  show 0 = cntB (fun v => (0 : Nat) != 0) N
  have : ∀ n, cntB (fun v => (0 : Nat) != 0) n = 0 := by
    intro n
    induction n with
    | zero => rfl
    | succ n ih => rw [cntB, ih]; rfl
  rw [this]
theorem enter0 (h : Inv N deg arc s) (hst : s.stk = []) (hc : s.calls = []) {v : Nat} (hv : v < N) (h0 : s.vis v = 0) : Inv N deg arc (s.enter v) :=
  ⟨h.b.enter hv h0 (fun _ => hst), fun r hr => (h.a r hr).enter0 hst hc v, fun hf => by
    obtain ⟨pt, pc, hp⟩ := h.p hf
    exact ⟨pt, pc, hp.enter h.b h0⟩⟩
theorem stepEnter (hg : ∀ v j, v < N → j < deg v → arc v j < N ∧ arc v j ≠ v) (h : Inv N deg arc s) {cs : List (Nat × Nat)} {v nx : Nat} (hc : s.calls = cs ++ [(v, nx)]) (hn : nx < deg v) (h0 : s.vis (arc v nx) = 0) : Inv N deg arc ((s.next cs v nx).enter (arc v nx)) := by
  have hvs : v ∈ s.stk := h.b.mem (c := (v, nx)) (by rw [hc]; simp)
  have hv := h.b.stN v hvs
  have hns : v ≠ arc v nx := fun e => (hg v nx hv hn).2 e.symm
  have hb1 := h.b.next hc hn
  refine ⟨hb1.enter (hg v nx hv hn).1 h0 (fun e => by simp [TS.next] at e), fun r hr => AI.enter hr h.b (h.a r hr) hc hv hn h0, fun hf => ?_⟩
  obtain ⟨pt, pc, hp⟩ := h.p hf
  have h1 := hp.enter h.b h0
  have h2 : (s.enter (arc v nx)).calls = s.calls ++ [(arc v nx, 0)] := rfl
  refine ⟨pt, pc, ⟨?_, ?_⟩⟩
  · intro c hcc j hj
    rcases List.mem_append.1 hcc with h3 | h3
    · rcases List.mem_append.1 h3 with h4 | h4
      · exact h1.fr c (by rw [h2, hc]; simp [h4]) j hj
      · have : c = (v, nx + 1) := by simpa using h4
        subst this
        by_cases e : j = nx
        · subst e
          show upd s.vis (arc v j) (s.cnt + 1) (arc v j) ≠ 0 ∧ (_ → upd s.vis (arc v j) (s.cnt + 1) v < upd s.vis (arc v j) (s.cnt + 1) (arc v j) ∨ _)
          rw [upd_same, upd_other _ _ hns]
          have := h.b.vle v
          exact ⟨by omega, fun _ => .inl (by omega)⟩
        · exact h1.fr (v, nx) (by rw [h2, hc]; simp) j (by simp at hj ⊢; omega)
    · have : c = (arc v nx, 0) := by simpa using h3
      subst this
      exact absurd hj (by simp)
  · exact h1.po
theorem stepLow (hg : ∀ v j, v < N → j < deg v → arc v j < N ∧ arc v j ≠ v) (h : Inv N deg arc s) {cs : List (Nat × Nat)} {v nx : Nat} (hc : s.calls = cs ++ [(v, nx)]) (hn : nx < deg v) (ho : s.onS (arc v nx) = true) : Inv N deg arc ((s.next cs v nx).lower v (s.vis (arc v nx))) := by
  have hvs : v ∈ s.stk := h.b.mem (c := (v, nx)) (by rw [hc]; simp)
  have hv := h.b.stN v hvs
  have hws := (h.b.on _).1 ho
  have hb1 := h.b.next hc hn
  have hne := (hg v nx hv hn).2
  have hhead : ∀ r st, s.stk = r :: st → s.vis r ≤ s.vis (arc v nx) := by
    intro r st e
    have hm := h.b.mono
    rw [e] at hm hws
    rcases List.mem_cons.1 hws with h1 | h1
    · rw [h1]; exact Nat.le_refl _
    · exact Nat.le_of_lt ((List.pairwise_cons.1 hm).1 _ h1)
  refine ⟨hb1.lower hhead, fun r hr => absurd hws ((h.a r hr).noback hr hc hv hn), fun hf => ?_⟩
  obtain ⟨pt, pc, hp⟩ := h.p hf
  have hdiff : s.vis (arc v nx) ≠ s.vis v := by
    intro e
    have hm := h.b.mono
    rcases List.append_of_mem hvs with ⟨p, q, e2⟩
    rw [e2] at hm hws
    rcases List.mem_append.1 hws with h1 | h1
    · have := (List.pairwise_append.1 hm).2.2 _ h1 v (by simp)
      omega
    · rcases List.mem_cons.1 h1 with h2 | h2
      · exact hne h2
      · have := (List.pairwise_cons.1 (List.pairwise_append.1 hm).2.1).1 _ h2
        omega
  have h1 := hp.lows (upd s.low v (min (s.low v) (s.vis (arc v nx)))) (fun x => by
    by_cases e : x = v
    · subst e; rw [upd_same]; omega
    · rw [upd_other _ _ e]; exact Nat.le_refl _)
  refine ⟨pt, pc, h1.next (s := { s with low := upd s.low v (min (s.low v) (s.vis (arc v nx))) }) hc ⟨h.b.sv _ hws, fun _ => ?_⟩⟩
  show s.vis v < s.vis (arc v nx) ∨ (upd s.low v (min (s.low v) (s.vis (arc v nx))) v ≤ s.vis (arc v nx) ∧ s.vis (arc v nx) < s.vis v)
  rw [upd_same]
  omega
theorem stepSkip (hg : ∀ v j, v < N → j < deg v → arc v j < N ∧ arc v j ≠ v) (h : Inv N deg arc s) {cs : List (Nat × Nat)} {v nx : Nat} (hc : s.calls = cs ++ [(v, nx)]) (hn : nx < deg v) (h0 : s.vis (arc v nx) ≠ 0) (ho : s.onS (arc v nx) = false) : Inv N deg arc (s.next cs v nx) := by
  have hg' := hg
  refine ⟨h.b.next hc hn, fun r hr => (h.a r hr).next hc, fun hf => ?_⟩
  obtain ⟨pt, pc, hp⟩ := h.p hf
  exact ⟨pt, pc, hp.next hc ⟨h0, fun h1 => by rw [ho] at h1; cases h1⟩⟩
theorem stepDrop (hg : ∀ v j, v < N → j < deg v → arc v j < N ∧ arc v j ≠ v) (h : Inv N deg arc s) {cs : List (Nat × Nat)} {v nx : Nat} (hc : s.calls = cs ++ [(v, nx)]) (hl : s.low v ≠ s.vis v) : Inv N deg arc (s.ended cs v) := by
  have hg' := hg
  have hvs : v ∈ s.stk := h.b.mem (c := (v, nx)) (by rw [hc]; simp)
  refine ⟨h.b.ended hc hl, fun r hr => absurd ((h.a r hr).lo v hvs) hl, fun hf => ?_⟩
  obtain ⟨pt, pc, hp⟩ := h.p hf
  exact ⟨pt, pc, (hp.lows (s.lowP cs v) (fun x => lowP_le s cs v x)).less (cs := cs) (fun c hcc => by rw [hc]; exact List.mem_append_left _ hcc)⟩
theorem stepPop (hg : ∀ v j, v < N → j < deg v → arc v j < N ∧ arc v j ≠ v) (h : Inv N deg arc s) {cs : List (Nat × Nat)} {v : Nat} (hc : s.calls = cs ++ [(v, deg v)]) (hl : s.low v = s.vis v) {pre post : List Nat} (hst : s.stk = pre ++ v :: post) : Inv N deg arc ((s.ended cs v).pop pre v post) := by
  refine ⟨h.b.popP hc hst, fun r hr => (h.a r hr).pop h.b hc hst, fun hf => ?_⟩
  have hf' : (s.flag && post.isEmpty) = true := hf
  rw [Bool.and_eq_true, List.isEmpty_iff] at hf'
  obtain ⟨hf1, rfl⟩ := hf'
  obtain ⟨pt, pc, hp⟩ := h.p hf1
  exact ⟨_, _, hp.pop1 hg h.b hc hl hst⟩
/-- Every node visited and the stack empty: the flag tells whether a falling rank exists. -/
theorem ends (h : Inv N deg arc s) (hst : s.stk = []) (hv : ∀ v, v < N → s.vis v ≠ 0) : s.flag = true ↔ ∃ r : Nat → Nat, ∀ v j, v < N → j < deg v → r (arc v j) < r v := by
  constructor
  · intro hf
    obtain ⟨pt, pc, hp⟩ := h.p hf
    refine ⟨pt, fun v j hvN hj => ?_⟩
    have ho : s.onS v = false := by
      cases ho : s.onS v with
      | false => rfl
      | true =>
        have := (h.b.on v).1 ho
        rw [hst] at this
        cases this
    exact ((hp.po v (hv v hvN) ho).2 j hj).2.2
  · rintro ⟨r, hr⟩
    exact (h.a r hr).fl
end Inv
end Go.Proofs.Ybulkegnm
