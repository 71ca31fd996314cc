import Derived.Test.YbulkegnmChain
namespace Go.Proofs.Ybulkegnm
/-- Its lists grow by three at most at each operation. -/
theorem step_deg (b : BS) (fi la : Nat → Int) (i v x : Nat) : ((b.step fi la i v).f x).length ≤ (b.f x).length + 3 := by
  have h1 : ∀ (f : Nat → List Nat) (l y x : Nat), (upd f l (f l ++ [y]) x).length ≤ (f x).length + 1 := by
    intro f l y x
    by_cases e : x = l
    · subst e; rw [upd_same]; simp
    · rw [upd_other _ _ e]; omega
  have h0 : ∀ (f : Nat → List Nat) (l x : Nat), (upd f l [] x).length ≤ (f x).length := by
    intro f l x
    by_cases e : x = l
    · subst e; rw [upd_same]; simp
    · rw [upd_other _ _ e]; omega
  have ha : ((b.arcFirst fi i v).f x).length ≤ (b.f x).length + 1 := by
    unfold BS.arcFirst
    split
    · omega
    · split
      · exact h1 _ _ _ _
      · omega
  have hc : ∀ b : BS, ((b.commit v).f x).length ≤ (b.f x).length + 2 := by
    intro b
    have e1 := h0 b.f b.len x
    have e2 := h1 (upd b.f b.len []) v b.len x
    cases hlt : b.lt with
    | none => simp only [BS.commit, hlt]; omega
    | some l =>
      have e3 := h1 (upd (upd b.f b.len []) v ((upd b.f b.len []) v ++ [b.len])) l b.len x
      simp only [BS.commit, hlt]
      omega
  unfold BS.step
  split
  · have := hc (b.arcFirst fi i v); omega
  · omega
theorem bld_deg (n : Nat) (G : Nat → List Nat) (fi la : Nat → Int) (tx : Nat → Nat) (x : Nat) : ∀ m, ((bld n G fi la tx m).f x).length ≤ (G x).length + 3 * m
  | 0 => by simp [bld]
  | m + 1 => by
    have h1 := bld_deg n G fi la tx x m
    have h2 := step_deg (bld n G fi la tx m) fi la m (tx m) x
    rw [bld]
    omega
theorem bld_len {n L : Nat} {la : Nat → Int} {tx : Nat → Nat} (htx : ∀ i, i < L → tx i < n) (hla : ∀ v i : Nat, la v = (i : Int) → i < L ∧ tx i = v) (G : Nat → List Nat) (fi : Nat → Int) : ∀ m, m ≤ L → (bld n G fi la tx m).len = n + cntB (fun v => decide (0 ≤ la v ∧ la v < (m : Int))) n
  | 0, _ => by
    rw [bld, cntB_zero n (fun i _ => by simp)]
    rfl
  | m + 1, hm => by
    have ih := bld_len htx hla G fi m (by omega)
    rw [bld, BS.step]
    have hal := (arcFirst_len (bld n G fi la tx m) fi m (tx m)).1
    by_cases e : la (tx m) = (m : Int)
    · rw [if_pos e]
      show (BS.arcFirst _ fi m (tx m)).len + 1 = _
      rw [hal, ih, cntB_upd (p := fun v => decide (0 ≤ la v ∧ la v < (m : Int))) (q := fun v => decide (0 ≤ la v ∧ la v < ((m + 1 : Nat) : Int))) (i := tx m) (by simp; omega) (by simp; omega) ?_ n (htx m (by omega))]
      · omega
      · intro j hj
        have : la j ≠ (m : Int) := fun h => hj ((hla j m h).2).symm
        simp only [decide_eq_decide]
        omega
    · rw [if_neg e, hal, ih]
      congr 1
      apply cntB_congr
      intro j _
      have : la j ≠ (m : Int) := fun h => by
        have h2 := (hla j m h).2
        rw [h2] at e
        exact e h
      simp only [decide_eq_decide]
      omega
end Go.Proofs.Ybulkegnm
