import Derived.Test.YbulkegnmS
namespace Go.Proofs.Ybulkegnm
open Go Go.RowKit

set_option maxHeartbeats 2000000 in
set_option maxRecDepth 100000 in
theorem get_any (Gb gD n v : Nat) (w : World) (h2 : w.cell? ⟨Gb, 2, none⟩ = some (.int .i64 (-1))) (h3 : w.cell? ⟨Gb, 3, none⟩ = some (.slice (some ⟨gD, 0, none⟩) n n)) (hd : w.cell? ⟨gD, v, none⟩ = some (.int .i64 (v : Int))) (hv : v < n) :
    Calls Yba.prog 8 #[.pointer (some ⟨Gb, 1, none⟩), .int .i64 (v : Int)] w fun e w' => e = .returned (.tuple #[.int .i64 (v : Int), .bool true]) ∧ ∃ q, w' = w.drewN q := by
  have i0 : (0 : Int) ≤ (v : Int) := by omega
  have i1 : (v : Int) < (n : Int) := by omega
  have d0 : decide ((0 : Int) ≤ (v : Int)) = true := by simp
  have d1 : decide ((v : Int) < (n : Int)) = true := by first | (simp; done) | (simp; omega)
  have d2 : ((v : Int) != -1) = true := by first | (simp; done) | (simp; omega)
  have d3 : decide ((v : Int) = -1) = false := by first | (simp; done) | (simp; omega)
  go_enter Yba.func8, Yba.ntmps8
  go_upto_region 3 with fail
  go_quiet (fail)
  go_wp2
  go_ret2
  exact ⟨rfl, _, rfl⟩
set_option maxHeartbeats 2000000 in
set_option maxRecDepth 100000 in
theorem node_any (Gb gD n v : Nat) (w : World) (h2 : w.cell? ⟨Gb, 2, none⟩ = some (.int .i64 (-1))) (h3 : w.cell? ⟨Gb, 3, none⟩ = some (.slice (some ⟨gD, 0, none⟩) n n)) (hd : w.cell? ⟨gD, v, none⟩ = some (.int .i64 (v : Int))) (hv : v < n) :
    Calls Yba.prog 5 #[.pointer (some ⟨Gb, 0, none⟩), .int .i64 (v : Int)] w fun e w' => e = .returned (.int .i64 (v : Int)) ∧ ∃ q, w' = w.drewN q := by
  have hg := get_any Gb gD n v w h2 h3 hd hv
  go_enter Yba.func5, Yba.ntmps5
  go_wp2_with (go_at_call 8; refine hg.mono ?_; rintro e w1 ⟨rfl, q, rfl⟩)
  go_ret
  exact ⟨rfl, _, rfl⟩
end Go.Proofs.Ybulkegnm
