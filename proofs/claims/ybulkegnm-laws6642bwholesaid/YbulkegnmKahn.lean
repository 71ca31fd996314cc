import Derived.Test.YbulkegnmTar
namespace Go.Proofs.Ybulkegnm
theorem cntB_none {p : Nat → Bool} : ∀ {n}, cntB p n = 0 → ∀ i, i < n → p i = false
  | 0, _, i, hi => by omega
  | n + 1, h, i, hi => by
    simp only [cntB] at h
    by_cases e : i = n
    · subst e
      cases hp : p i with
      | false => rfl
      | true => rw [hp] at h; simp at h
    · have h' : cntB p n = 0 := by omega
      exact cntB_none h' i (by omega)
theorem cntB_zero {p : Nat → Bool} : ∀ n, (∀ i, i < n → p i = false) → cntB p n = 0
  | 0, _ => rfl
  | n + 1, h => by simp only [cntB]; rw [cntB_zero n (fun i hi => h i (by omega)), h n (by omega)]; rfl
theorem cntB_all {p : Nat → Bool} : ∀ {n}, cntB p n = n → ∀ i, i < n → p i = true
  | 0, _, i, hi => by omega
  | n + 1, h, i, hi => by
    simp only [cntB] at h
    have := cntB_le p n
    by_cases e : i = n
    · subst e
      cases hp : p i with
      | true => rfl
      | false => rw [hp] at h; simp at h; omega
    · have h' : cntB p n = n := by split at h <;> omega
      exact cntB_all h' i (by omega)

/-- Kahn's state: the removed, their order, the counts of arcs from what is left. -/
structure KI (n : Nat) (adj : Nat → Nat → Bool) (rm : Nat → Bool) (ind : Nat → Int) (cnt : Nat) (rk : Nat → Nat) : Prop where
  ind : ∀ w, w < n → ind w = (cntB (fun u => !rm u && adj u w) n : Nat)
  cn : cnt = cntB rm n
  rk : ∀ w, w < n → rm w = true → rk w < cnt ∧ ∀ u, u < n → adj u w = true → rm u = true ∧ rk u < rk w
theorem KI.start (n : Nat) (adj : Nat → Nat → Bool) (ind : Nat → Int) (h : ∀ w, w < n → ind w = (cntB (fun u => adj u w) n : Nat)) : KI n adj (fun _ => false) ind 0 (fun _ => 0) :=
  ⟨fun w hw => by rw [h w hw]; rfl, (cntB_zero n (fun _ _ => rfl)).symm, fun w _ h => by cases h⟩
theorem KI.take {n : Nat} {adj : Nat → Nat → Bool} {rm : Nat → Bool} {ind : Nat → Int} {cnt : Nat} {rk : Nat → Nat} (h : KI n adj rm ind cnt rk) {v : Nat} (hv : v < n) (hr : rm v = false) (h0 : ind v = 0) (hs : adj v v = false) (ind' : Nat → Int) (hi : ∀ w, w < n → ind' w = if adj v w then ind w - 1 else ind w) :
    KI n adj (upd rm v true) ind' (cnt + 1) (upd rk v cnt) := by
  have hp : ∀ u, u < n → adj u v = true → rm u = true := by
    intro u hu ha
    have h1 : cntB (fun u => !rm u && adj u v) n = 0 := by
      have := h.ind v hv
      omega
    have := cntB_none h1 u hu
    rw [ha] at this
    simpa using this
  refine ⟨?_, ?_, ?_⟩
  · intro w hw
    rw [hi w hw]
    by_cases ha : adj v w = true
    · rw [if_pos ha, h.ind w hw]
      have := cntB_upd (p := fun u => !upd rm v true u && adj u w) (q := fun u => !rm u && adj u w) (i := v) (by simp) (by simp [hr, ha]) (fun j hj => by simp [upd_other _ _ hj]) n hv
      rw [this]
      omega
    · rw [if_neg ha, h.ind w hw]
      have : cntB (fun u => !rm u && adj u w) n = cntB (fun u => !upd rm v true u && adj u w) n := cntB_congr n (fun j _ => by
        by_cases e : j = v
        · subst e; simp [ha]
        · simp [upd_other _ _ e])
      rw [this]
  · rw [h.cn]
    exact (cntB_upd (i := v) hr (by simp) (fun j hj => by simp [upd_other _ _ hj]) n hv).symm
  · intro w hw hrw
    by_cases e : w = v
    · subst e
      rw [upd_same]
      refine ⟨by omega, fun u hu ha => ?_⟩
      have h1 := hp u hu ha
      have hne : u ≠ w := fun e => by rw [e, hr] at h1; cases h1
      rw [upd_other _ _ hne, upd_other _ _ hne]
      exact ⟨h1, (h.rk u hu h1).1⟩
    · rw [upd_other _ _ e] at hrw ⊢
      obtain ⟨h1, h2⟩ := h.rk w hw hrw
      refine ⟨by omega, fun u hu ha => ?_⟩
      obtain ⟨h3, h4⟩ := h2 u hu ha
      have hne : u ≠ v := fun e => by rw [e, hr] at h3; cases h3
      rw [upd_other _ _ hne, upd_other _ _ hne]
      exact ⟨h3, h4⟩
/-- A falling rank of the matrix adj over n nodes. -/
def Rk (n : Nat) (adj : Nat → Nat → Bool) (r : Nat → Nat) : Prop := ∀ u w, u < n → w < n → adj u w = true → r w < r u
/-- All are removed: there is a falling rank. -/
theorem KI.full {n : Nat} {adj : Nat → Nat → Bool} {rm : Nat → Bool} {ind : Nat → Int} {rk : Nat → Nat} (h : KI n adj rm ind n rk) : ∃ r, Rk n adj r := by
  have hall := cntB_all h.cn.symm
  refine ⟨fun v => n - rk v, fun u w hu hw ha => ?_⟩
  obtain ⟨h1, h2⟩ := h.rk w hw (hall w hw)
  obtain ⟨_, h4⟩ := h2 u hu ha
  show n - rk w < n - rk u
  omega
/-- The greatest of f over those of the first n that have p. -/
theorem max_of {p : Nat → Bool} (f : Nat → Nat) : ∀ n, (∃ i, i < n ∧ p i = true) → ∃ m, m < n ∧ p m = true ∧ ∀ i, i < n → p i = true → f i ≤ f m
  | 0, ⟨i, h, _⟩ => by omega
  | n + 1, ⟨i, h, hp⟩ => by
    by_cases hex : ∃ i, i < n ∧ p i = true
    · obtain ⟨m, h1, h2, h3⟩ := max_of f n hex
      by_cases hc : p n = true ∧ f m < f n
      · refine ⟨n, by omega, hc.1, fun j hj hpj => ?_⟩
        by_cases e : j = n
        · rw [e]; exact Nat.le_refl _
        · have := h3 j (by omega) hpj; omega
      · refine ⟨m, by omega, h2, fun j hj hpj => ?_⟩
        by_cases e : j = n
        · subst e
          rcases Nat.lt_or_ge (f m) (f j) with h4 | h4
          · exact absurd ⟨hpj, h4⟩ hc
          · exact h4
        · exact h3 j (by omega) hpj
    · have e : i = n := by
        rcases Nat.lt_or_ge i n with h1 | h1
        · exact absurd ⟨i, h1, hp⟩ hex
        · omega
      subst e
      refine ⟨i, h, hp, fun j hj hpj => ?_⟩
      by_cases e : j = i
      · rw [e]; exact Nat.le_refl _
      · exact absurd ⟨j, by omega, hpj⟩ hex
/-- None can be taken, and some are left: there is no falling rank. -/
theorem KI.stuck {n : Nat} {adj : Nat → Nat → Bool} {rm : Nat → Bool} {ind : Nat → Int} {cnt : Nat} {rk : Nat → Nat} (h : KI n adj rm ind cnt rk) (hlt : cnt < n) (hno : ∀ v, v < n → rm v = false → ind v ≠ 0) : ¬ ∃ r, Rk n adj r := by
  rintro ⟨r, hr⟩
  have hex : ∃ i, i < n ∧ (!rm i) = true := by
    refine Classical.byContradiction fun hne => ?_
    have hall : ∀ i, i < n → rm i = true := fun i hi => by
      cases hi2 : rm i with
      | true => rfl
      | false => exact absurd ⟨i, hi, by simp [hi2]⟩ hne
    have h1 : cntB rm n = n := by
      have : ∀ m, m ≤ n → cntB rm m = m := by
        intro m
        induction m with
        | zero => intro _; rfl
        | succ m ih => intro hm; rw [cntB, ih (by omega), hall m (by omega)]; rfl
      exact this n (Nat.le_refl _)
    have := h.cn
    omega
  obtain ⟨m, h1, h2, h3⟩ := max_of r n hex
  have hm : rm m = false := by simpa using h2
  refine hno m h1 hm ?_
  rw [h.ind m h1]
  have : cntB (fun u => !rm u && adj u m) n = 0 := cntB_zero n (fun u hu => by
    cases hu2 : (!rm u && adj u m) with
    | false => rfl
    | true =>
      rw [Bool.and_eq_true] at hu2
      have h4 := h3 u hu hu2.1
      have h5 := hr u m hu h1 hu2.2
      omega)
  rw [this]
  rfl
end Go.Proofs.Ybulkegnm
