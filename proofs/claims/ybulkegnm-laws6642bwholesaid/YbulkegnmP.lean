import Derived.Test.YbulkegnmB
namespace Go.Proofs.Ybulkegnm
/-- The arcs' lists behind the first k arcs. -/
def GA (fa fb : Nat → Nat) : Nat → Nat → List Nat
  | 0, _ => []
  | k + 1, v => if fa k = fb k then GA fa fb k v else upd (GA fa fb k) (fa k) (GA fa fb k (fa k) ++ [fb k]) v
theorem GA_len (fa fb : Nat → Nat) : ∀ k v, (GA fa fb k v).length ≤ k
  | 0, v => by simp [GA]
  | k + 1, v => by
    have h1 := GA_len fa fb k v
    rw [GA]
    split
    · omega
    · by_cases e : v = fa k
      · subst e; rw [upd_same]; simp; exact h1
      · rw [upd_other _ _ e]; omega
theorem GA_out {n : Nat} {fa fb : Nat → Nat} (ha : ∀ k, fa k < n) : ∀ k v, n ≤ v → GA fa fb k v = []
  | 0, v, _ => rfl
  | k + 1, v, h => by
    have h1 := GA_out (fb := fb) ha k v h
    have h2 := ha k
    rw [GA]
    split
    · exact h1
    · rw [upd_other _ _ (by omega)]; exact h1
theorem GA_in {n : Nat} {fa fb : Nat → Nat} (hb : ∀ k, fb k < n) : ∀ k v, ∀ x ∈ GA fa fb k v, x < n ∧ x ≠ v
  | 0, v, x, h => by simp [GA] at h
  | k + 1, v, x, h => by
    have ih := GA_in (fa := fa) hb k
    rw [GA] at h
    split at h
    · exact ih v x h
    · next hne =>
      by_cases e : v = fa k
      · subst e
        rw [upd_same] at h
        rcases List.mem_append.1 h with h1 | h1
        · exact ih _ x h1
        · have : x = fb k := by simpa using h1
          subst this
          exact ⟨hb k, fun e => hne e.symm⟩
      · rw [upd_other _ _ e] at h
        exact ih v x h
theorem GA_mem (fa fb : Nat → Nat) (k u x : Nat) (hne : fa k ≠ fb k) : decide (x ∈ GA fa fb (k + 1) u) = if u = fa k ∧ x = fb k then true else decide (x ∈ GA fa fb k u) := by
  rw [GA, if_neg hne]
  by_cases e : u = fa k
  · subst e
    rw [upd_same]
    by_cases e2 : x = fb k
    · subst e2; simp
    · rw [if_neg (fun h => e2 h.2)]; simp [e2]
  · rw [upd_other _ _ e, if_neg (fun h => e h.1)]
/-- 'u commits before x begins'. -/
def cond (fi la : Nat → Int) (u x : Nat) : Bool := decide (0 ≤ fi u) && decide (0 ≤ fi x) && decide (la u < fi x)
/-- The matrix while the model's arcs are added. -/
def mS (G : Nat → List Nat) (fi la : Nat → Int) (u0 x0 u x : Nat) : Bool := decide (x ∈ G u) || (decide (u < u0 ∨ (u = u0 ∧ x < x0)) && cond fi la u x)
theorem mS_start (G : Nat → List Nat) (fi la : Nat → Int) (u x : Nat) : mS G fi la 0 0 u x = decide (x ∈ G u) := by simp [mS]
theorem mS_row (G : Nat → List Nat) (fi la : Nat → Int) {n : Nat} (u0 u x : Nat) (hx : x < n) : mS G fi la u0 n u x = mS G fi la (u0 + 1) 0 u x := by
  unfold mS
  congr 2
  simp only [decide_eq_decide]
  omega
theorem mS_end (G : Nat → List Nat) (fi la : Nat → Int) {n u x : Nat} (hu : u < n) : mS G fi la n 0 u x = adjP G fi la u x := by
  unfold mS adjP cond
  have : decide (u < n ∨ (u = n ∧ x < 0)) = true := by simp [hu]
  rw [this, Bool.true_and]
theorem mS_step (G : Nat → List Nat) (fi la : Nat → Int) (u0 x0 u x : Nat) : mS G fi la u0 (x0 + 1) u x = if u = u0 ∧ x = x0 then (mS G fi la u0 x0 u x || cond fi la u0 x0) else mS G fi la u0 x0 u x := by
  unfold mS
  by_cases e : u = u0 ∧ x = x0
  · rw [if_pos e]
    obtain ⟨rfl, rfl⟩ := e
    have h1 : decide (u < u ∨ (u = u ∧ x < x + 1)) = true := by simp
    have h2 : decide (u < u ∨ (u = u ∧ x < x)) = false := by simp
    rw [h1, h2]
    simp
  · rw [if_neg e]
    congr 2
    simp only [decide_eq_decide]
    omega
/-- The counts of arcs while they are made. -/
def iS (adj : Nat → Nat → Bool) (u0 x0 x : Nat) : Nat := cntB (fun u => adj u x) u0 + (if x < x0 ∧ adj u0 x = true then 1 else 0)
theorem iS_start (adj : Nat → Nat → Bool) (x : Nat) : iS adj 0 0 x = 0 := by simp [iS, cntB]
theorem iS_row (adj : Nat → Nat → Bool) {n : Nat} (u0 x : Nat) (hx : x < n) : iS adj u0 n x = iS adj (u0 + 1) 0 x := by
  simp [iS, cntB, hx]
theorem iS_end (adj : Nat → Nat → Bool) (n x : Nat) : iS adj n 0 x = cntB (fun u => adj u x) n := by simp [iS]
theorem iS_step (adj : Nat → Nat → Bool) (u0 x0 x : Nat) : iS adj u0 (x0 + 1) x = if x = x0 then (iS adj u0 x0 x + if adj u0 x0 then 1 else 0) else iS adj u0 x0 x := by
  unfold iS
  by_cases e : x = x0
  · subst e
    rw [if_pos rfl]
    simp
  · rw [if_neg e]
    congr 1
    have : (x < x0 + 1 ∧ adj u0 x = true) ↔ (x < x0 ∧ adj u0 x = true) := by
      constructor
      · rintro ⟨h1, h2⟩; exact ⟨by omega, h2⟩
      · rintro ⟨h1, h2⟩; exact ⟨by omega, h2⟩
    by_cases h : x < x0 ∧ adj u0 x = true
    · rw [if_pos h, if_pos (this.2 h)]
    · rw [if_neg h, if_neg (fun h' => h (this.1 h'))]
theorem iS_le (adj : Nat → Nat → Bool) (u0 x0 x : Nat) : iS adj u0 x0 x ≤ u0 + 1 := by
  unfold iS
  have := cntB_le (fun u => adj u x) u0
  split <;> omega
/-- No arc leads to its own node. -/
theorem adjP_self {n L : Nat} {G : Nat → List Nat} {tx : Nat → Nat} (hG : ∀ v, ∀ w ∈ G v, w < n ∧ w ≠ v) (v : Nat) : adjP G (FI tx L) (LA tx L) v v = false := by
  unfold adjP
  have h1 : decide (v ∈ G v) = false := by
    simp only [decide_eq_false_iff_not]
    intro h
    exact (hG v v h).2 rfl
  rw [h1, Bool.false_or]
  by_cases h0 : 0 ≤ FI tx L v
  · have : FI tx L v ≤ LA tx L v := by
      have key : ∀ m, FI tx m v ≤ LA tx m v := by
        intro m
        induction m with
        | zero => simp [FI, LA]
        | succ m ih =>
          have := FI_ge tx m v
          rw [FI, LA]
          by_cases e : v = tx m
          · rw [if_pos e]
            by_cases h : FI tx m v < 0
            · rw [if_pos ⟨e, h⟩]; omega
            · rw [if_neg (fun hh => h hh.2)]; omega
          · rw [if_neg e, if_neg (fun hh => e hh.1)]; exact ih
      exact key L
    have h3 : decide (LA tx L v < FI tx L v) = false := by simp; omega
    rw [h3]; simp
  · have : decide (0 ≤ FI tx L v) = false := by simp; omega
    rw [this]; simp
end Go.Proofs.Ybulkegnm
