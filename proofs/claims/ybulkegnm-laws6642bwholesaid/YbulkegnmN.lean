import Derived.Test.YbulkegnmS
namespace Go.Proofs.Ybulkegnm
open Go Go.RowKit

set_option maxHeartbeats 2000000 in
set_option maxRecDepth 100000 in
theorem law_big (a0 : Int) (aT : Option Addr) (L capT : Nat) (aA : Option Addr) (K capA : Nat) (w : World) (h : 65536 < L ∨ 65536 < K) :
    Calls Yba.prog 3 #[.int .u8 a0, .slice aT L capT, .slice aA K capA] w fun e w' => e = .returned (.bool true) ∧ Below w.heap.size w w' := by
  by_cases h1 : 65536 < L
  · have d1 : decide ((65536 : Int) < (L : Int)) = true := by simp; omega
    clear h
    go_enter Yba.func3, Yba.ntmps3
    go_wp2
    go_ret
    exact ⟨rfl, Below.refl _ _⟩
  · have d1 : decide ((65536 : Int) < (L : Int)) = false := by simp; omega
    have d2 : decide ((65536 : Int) < (K : Int)) = true := by simp; omega
    clear h
    go_enter Yba.func3, Yba.ntmps3
    go_wp2
    go_ret
    exact ⟨rfl, Below.refl _ _⟩
end Go.Proofs.Ybulkegnm
