import Derived.Test.YbulkegkgLeaf
namespace Go.Proofs.Ybulkegkg
open Go.RowKit

/-- What escapeLen answers at the bytes 'z 0 .. z (n-1)'. -/
def escL (n : Nat) (z : Nat → Int) : Int :=
  if n = 0 then 0 else if simB (z 0) = true then 1 else if z 0 = 117 ∧ 5 ≤ n ∧ hexB (z 1) = true ∧ hexB (z 2) = true ∧ hexB (z 3) = true ∧ hexB (z 4) = true then 5 else 0

theorem esc_none (a : Option Addr) (c : Nat) (w : World) :
    Calls Yba.prog 4 #[.slice a 0 c] w fun e w' => e = .returned (.int .i64 0) ∧ w' = w := by
  go_enter Yba.func4, Yba.ntmps4
  go_wp2
  go_ret
  exact ⟨rfl, rfl⟩

def hexTo (k : Nat) (z : Nat → Int) : Prop := (0 < k → hexB (z 1) = true) ∧ (1 < k → hexB (z 2) = true) ∧ (2 < k → hexB (z 3) = true) ∧ (3 < k → hexB (z 4) = true)
theorem hexTo_step {k : Nat} {z : Nat → Int} (h : hexTo k z) (hk : k < 4) (hh : hexB (z (1 + k)) = true) : hexTo (k + 1) z := by
  unfold hexTo at *
  rcases (show k = 0 ∨ k = 1 ∨ k = 2 ∨ k = 3 by omega) with rfl | rfl | rfl | rfl <;> simp_all
theorem hexTo_fail {n k : Nat} {z : Nat → Int} (hn : 0 < n) (hk : k < 4) (h0 : z 0 = 117) (hh : hexB (z (1 + k)) = false) : escL n z = 0 := by
  unfold escL
  rw [if_neg (by omega), h0, if_neg (by decide), if_neg]
  rcases (show k = 0 ∨ k = 1 ∨ k = 2 ∨ k = 3 by omega) with rfl | rfl | rfl | rfl <;> simp_all
theorem hexTo_all {n : Nat} {z : Nat → Int} (hn : 5 ≤ n) (h0 : z 0 = 117) (h : hexTo 4 z) : escL n z = 5 := by
  unfold escL
  unfold hexTo at h
  rw [if_neg (by omega), h0, if_neg (by decide), if_pos]
  simp_all
theorem hex_yes {c : Int} (h : (48 ≤ c ∧ c ≤ 57) ∨ (97 ≤ c ∧ c ≤ 102) ∨ (65 ≤ c ∧ c ≤ 70)) : hexB c = true := by unfold hexB; rw [decide_eq_true_iff]; exact h
theorem hex_no {c : Int} (h : ¬ ((48 ≤ c ∧ c ≤ 57) ∨ (97 ≤ c ∧ c ≤ 102) ∨ (65 ≤ c ∧ c ≤ 70))) : hexB c = false := by unfold hexB; rw [decide_eq_false_iff_not]; exact h
theorem esc_one {n : Nat} {z : Nat → Int} (hn : 0 < n) (h : z 0 = 34 ∨ z 0 = 92 ∨ z 0 = 47 ∨ z 0 = 98 ∨ z 0 = 102 ∨ z 0 = 110 ∨ z 0 = 114 ∨ z 0 = 116) : escL n z = 1 := by
  unfold escL
  rw [if_neg (by omega), if_pos]
  unfold simB; rw [decide_eq_true_iff]; exact h
theorem esc_zero {n : Nat} {z : Nat → Int} (hn : 0 < n) (h : ¬ (z 0 = 34 ∨ z 0 = 92 ∨ z 0 = 47 ∨ z 0 = 98 ∨ z 0 = 102 ∨ z 0 = 110 ∨ z 0 = 114 ∨ z 0 = 116)) (h2 : z 0 ≠ 117 ∨ n < 5) : escL n z = 0 := by
  unfold escL
  rw [if_neg (by omega), if_neg, if_neg]
  · omega
  · unfold simB; rw [decide_eq_true_iff]; exact h

set_option maxHeartbeats 2000000 in
theorem esc_some (g n : Nat) (z : Nat → Int) (w : World) (hn : 0 < n) (hm : n ≤ 1048576) (hc : ∀ j, j < n → w.cell? ⟨g, j, none⟩ = some (.int .u8 (z j))) :
    Calls Yba.prog 4 #[.slice (some ⟨g, 0, none⟩) n n] w fun e w' => e = .returned (.int .i64 (escL n z)) ∧ w' = w := by
  have hc0 := hc 0 hn
  obtain ⟨z0, hz0⟩ : ∃ z0, z0 = z 0 := ⟨_, rfl⟩
  rw [← hz0] at hc0
  by_cases h1 : z0 = 34 ∨ z0 = 92 ∨ z0 = 47 ∨ z0 = 98 ∨ z0 = 102 ∨ z0 = 110 ∨ z0 = 114 ∨ z0 = 116
  · have he := esc_one (z := z) hn (by rw [← hz0]; exact h1)
    have He : Hid (escL n z = 1) := he
    clear he hz0 hc
    rcases h1 with rfl | rfl | rfl | rfl | rfl | rfl | rfl | rfl
    all_goals
      go_enter Yba.func4, Yba.ntmps4
      go_wp2
      go_ret
      exact ⟨ret_int He.out.symm, rfl⟩
  · have e1 : (z0 == 34) = false := beq_eq_false_iff_ne.2 (by omega)
    have e2 : (z0 == 92) = false := beq_eq_false_iff_ne.2 (by omega)
    have e3 : (z0 == 47) = false := beq_eq_false_iff_ne.2 (by omega)
    have e4 : (z0 == 98) = false := beq_eq_false_iff_ne.2 (by omega)
    have e5 : (z0 == 102) = false := beq_eq_false_iff_ne.2 (by omega)
    have e6 : (z0 == 110) = false := beq_eq_false_iff_ne.2 (by omega)
    have e7 : (z0 == 114) = false := beq_eq_false_iff_ne.2 (by omega)
    have e8 : (z0 == 116) = false := beq_eq_false_iff_ne.2 (by omega)
    by_cases h2 : z0 = 117
    · by_cases h5 : n < 5
      · have He : Hid (escL n z = 0) := esc_zero hn (by rw [← hz0]; exact h1) (.inr h5)
        clear hz0 hc h1 e1 e2 e3 e4 e5 e6 e7 e8
        subst h2
        go_enter Yba.func4, Yba.ntmps4
        go_wp2
        go_ret
        exact ⟨ret_int He.out.symm, rfl⟩
      · have HZ : Hid (z 0 = 117) := hz0.symm.trans h2
        have n1 : ¬ n = 1 := by omega
        clear hz0 h1 e1 e2 e3 e4 e5 e6 e7 e8
        subst h2
        have HC : Hid (∀ j, j < n → w.cell? ⟨g, j, none⟩ = some (.int .u8 (z j))) := hc
        clear hc
        go_enter Yba.func4, Yba.ntmps4
        go_wp2
        go_loop [28] (fun i => ∃ k : Nat, k ≤ 4 ∧ i = .int .i64 k ∧ hexTo k z) (fun i => 4 - (intOf i).toNat)
        case atStart => exact ⟨0, by omega, rfl, by simp [hexTo]⟩
        case round =>
          obtain ⟨k, hk, rfl, hp⟩ := hrel
          have HP : Hid (hexTo k z) := hp
          clear hp
          by_cases h4 : k < 4
          · have hck := HC.out (1 + k) (by omega)
            obtain ⟨c, hcz⟩ : ∃ c, c = z (1 + k) := ⟨_, rfl⟩
            rw [← hcz] at hck
            have HCZ : Hid (c = z (1 + k)) := hcz
            clear hcz
            have hseven : (48 ≤ c ∧ c ≤ 57) ∨ (97 ≤ c ∧ c ≤ 102) ∨ (65 ≤ c ∧ c ≤ 70) ∨ c < 48 ∨ (57 < c ∧ c < 65) ∨ (70 < c ∧ c < 97) ∨ 102 < c := by omega
            rcases hseven with ⟨q1, q2⟩ | ⟨q1, q2⟩ | ⟨q1, q2⟩ | q1 | ⟨q1, q2⟩ | ⟨q1, q2⟩ | q1
            · go_wp2
              go_round
              case rel => exact ⟨k + 1, by omega, by go_num, hexTo_step HP.out h4 (by rw [← HCZ.out]; exact hex_yes (by omega))⟩
              case measure => simp [intOf]; omega
            · go_wp2
              go_round
              case rel => exact ⟨_, _, _, ⟨k + 1, by omega, by go_num, hexTo_step HP.out h4 (by rw [← HCZ.out]; exact hex_yes (by omega))⟩, rfl, rfl, rfl⟩
              case measure => simp [intOf]; omega
            · go_wp2
              go_round
              case rel => exact ⟨_, _, _, ⟨k + 1, by omega, by go_num, hexTo_step HP.out h4 (by rw [← HCZ.out]; exact hex_yes (by omega))⟩, rfl, rfl, rfl⟩
              case measure => simp [intOf]; omega
            · have d14 : decide ((48:Int) ≤ c) = false := by simp; omega
              have d73 : decide ((97:Int) ≤ c) = false := by simp; omega
              have d146 : decide ((65:Int) ≤ c) = false := by simp; omega
              go_wp2
              go_ret
              exact ⟨ret_int (hexTo_fail hn h4 HZ.out (by rw [← HCZ.out]; exact hex_no (by omega))).symm, rfl⟩
            · have d14 : decide ((48:Int) ≤ c) = true := by simp; omega
              have d72 : decide (c ≤ (57:Int)) = false := by simp; omega
              have d145 : decide ((97:Int) ≤ c) = false := by simp; omega
              have d219 : decide ((65:Int) ≤ c) = false := by simp; omega
              go_wp2
              go_ret
              exact ⟨ret_int (hexTo_fail hn h4 HZ.out (by rw [← HCZ.out]; exact hex_no (by omega))).symm, rfl⟩
            · have d14 : decide ((48:Int) ≤ c) = true := by simp; omega
              have d72 : decide (c ≤ (57:Int)) = false := by simp; omega
              have d145 : decide ((97:Int) ≤ c) = false := by simp; omega
              have d219 : decide ((65:Int) ≤ c) = true := by simp; omega
              have d292 : decide (c ≤ (70:Int)) = false := by simp; omega
              go_wp2
              go_ret
              exact ⟨ret_int (hexTo_fail hn h4 HZ.out (by rw [← HCZ.out]; exact hex_no (by omega))).symm, rfl⟩
            · have d14 : decide ((48:Int) ≤ c) = true := by simp; omega
              have d72 : decide (c ≤ (57:Int)) = false := by simp; omega
              have d145 : decide ((97:Int) ≤ c) = true := by simp; omega
              have d218 : decide (c ≤ (102:Int)) = false := by simp; omega
              have d293 : decide ((65:Int) ≤ c) = true := by simp; omega
              have d366 : decide (c ≤ (70:Int)) = false := by simp; omega
              go_wp2
              go_ret
              exact ⟨ret_int (hexTo_fail hn h4 HZ.out (by rw [← HCZ.out]; exact hex_no (by omega))).symm, rfl⟩
          · obtain rfl : k = 4 := by omega
            go_wp2
            go_ret
            exact ⟨ret_int (hexTo_all (by omega) HZ.out HP.out).symm, rfl⟩
    · have e9 : (z0 == 117) = false := beq_eq_false_iff_ne.2 (by omega)
      have He : Hid (escL n z = 0) := esc_zero hn (by rw [← hz0]; exact h1) (.inl (by rw [← hz0]; exact h2))
      clear hz0 hc h1 h2
      go_enter Yba.func4, Yba.ntmps4
      go_wp2
      go_ret
      exact ⟨ret_int He.out.symm, rfl⟩
end Go.Proofs.Ybulkegkg
