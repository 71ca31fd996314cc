import Derived.Test.YbulkegkgRows
import Derived.WalkKit
import Derived.WalkSpells
import Derived.Below
namespace Go.Proofs.Ybulkegkg
open Go.RowKit

/-- A hex digit. -/
def hexB (c : Int) : Bool := decide ((48 ≤ c ∧ c ≤ 57) ∨ (97 ≤ c ∧ c ≤ 102) ∨ (65 ≤ c ∧ c ≤ 70))
/-- One of the eight simple escapes. -/
def simB (c : Int) : Bool := decide (c = 34 ∨ c = 92 ∨ c = 47 ∨ c = 98 ∨ c = 102 ∨ c = 110 ∨ c = 114 ∨ c = 116)

theorem ret_bool {a b : Bool} (h : a = b) : Ending.returned (.bool a) = .returned (.bool b) := by rw [h]
theorem ret_int {k : IntKind} {a b : Int} (h : a = b) : Ending.returned (.int k a) = .returned (.int k b) := by rw [h]

set_option maxHeartbeats 400000 in
theorem hex_any (c : Int) (w : World) :
    Calls Yba.prog 6 #[.int .u8 c] w fun e w' => e = .returned (.bool (hexB c)) ∧ w' = w := by
  go_enter Yba.func6, Yba.ntmps6
  go_wp2
  all_goals
    go_ret
    refine ⟨ret_bool ?_, rfl⟩
    unfold hexB
    first
      | (symm; rw [decide_eq_true_iff]; omega)
      | (symm; rw [decide_eq_false_iff_not]; omega)

def simTab : ByteArray := ⟨#[34, 92, 47, 98, 102, 110, 114, 116]⟩
theorem simTab_size : simTab.size = 8 := rfl
def pre (k : Nat) (c : Int) : Prop := (0 < k → c ≠ 34) ∧ (1 < k → c ≠ 92) ∧ (2 < k → c ≠ 47) ∧ (3 < k → c ≠ 98) ∧ (4 < k → c ≠ 102) ∧ (5 < k → c ≠ 110) ∧ (6 < k → c ≠ 114) ∧ (7 < k → c ≠ 116)
theorem pre_hit (k : Nat) (hk : k < simTab.size) (c : Int) (h : ((simTab[k].toNat : Int) == c) = true) : true = simB c := by
  have h := eq_of_beq h
  rw [simTab_size] at hk
  unfold simB; rw [eq_comm, decide_eq_true_iff]
  rcases (show k = 0 ∨ k = 1 ∨ k = 2 ∨ k = 3 ∨ k = 4 ∨ k = 5 ∨ k = 6 ∨ k = 7 by omega) with rfl | rfl | rfl | rfl | rfl | rfl | rfl | rfl
  · have h' : (34 : Int) = c := h
    omega
  · have h' : (92 : Int) = c := h
    omega
  · have h' : (47 : Int) = c := h
    omega
  · have h' : (98 : Int) = c := h
    omega
  · have h' : (102 : Int) = c := h
    omega
  · have h' : (110 : Int) = c := h
    omega
  · have h' : (114 : Int) = c := h
    omega
  · have h' : (116 : Int) = c := h
    omega
theorem pre_miss (k : Nat) (hk : k < simTab.size) (c : Int) (hp : pre k c) (h : ((simTab[k].toNat : Int) == c) = false) : pre (k + 1) c := by
  have h := beq_eq_false_iff_ne.1 h
  rw [simTab_size] at hk
  unfold pre at hp ⊢
  rcases (show k = 0 ∨ k = 1 ∨ k = 2 ∨ k = 3 ∨ k = 4 ∨ k = 5 ∨ k = 6 ∨ k = 7 by omega) with rfl | rfl | rfl | rfl | rfl | rfl | rfl | rfl
  · have h' : (34 : Int) ≠ c := h
    omega
  · have h' : (92 : Int) ≠ c := h
    omega
  · have h' : (47 : Int) ≠ c := h
    omega
  · have h' : (98 : Int) ≠ c := h
    omega
  · have h' : (102 : Int) ≠ c := h
    omega
  · have h' : (110 : Int) ≠ c := h
    omega
  · have h' : (114 : Int) ≠ c := h
    omega
  · have h' : (116 : Int) ≠ c := h
    omega

set_option maxHeartbeats 800000 in
theorem sim_any (c : Int) (w : World) :
    Calls Yba.prog 5 #[.int .u8 c] w fun e w' => e = .returned (.bool (simB c)) ∧ w' = w := by
  go_enter Yba.func5, Yba.ntmps5
  go_wp2
  go_loop [3] (fun i => ∃ k : Nat, k ≤ 8 ∧ i = .int .i64 k ∧ pre k c) (fun i => 8 - (intOf i).toNat)
  case atStart => exact ⟨0, by omega, rfl, by unfold pre; omega⟩
  case round =>
    obtain ⟨k, hk, rfl, hp⟩ := hrel
    have HP : Hid (pre k c) := hp
    clear hp
    by_cases h8 : k < 8
    · go_wp2
      · go_ret
        exact ⟨ret_bool (pre_hit k h8 c (by assumption)), rfl⟩
      · go_round
        case rel => exact ⟨k + 1, by omega, by go_num, pre_miss k h8 c HP.out (by assumption)⟩
        case measure => simp [intOf]; omega
    · go_wp2
      go_ret
      have hp := HP.out
      unfold pre at hp
      refine ⟨ret_bool ?_, rfl⟩
      unfold simB
      symm; rw [decide_eq_false_iff_not]; omega
end Go.Proofs.Ybulkegkg
