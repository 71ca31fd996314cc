import Derived.Test.YbulkegkgGreatC
import Derived.Laws.MakeOwn
import Derived.Laws.EntriesVeiled
namespace Go.Proofs.YbulkegkgGreat
open Go.RowKit

set_option maxHeartbeats 1000000 in
set_option maxRecDepth 100000 in
theorem before_nil (q : K) (w : World) : Calls Ybaz.prog 4 #[.pointer none, kv q] w fun e w' => e = .returned (.int .i64 0) ∧ Below w.heap.size w w' := by
  obtain ⟨q1, q2⟩ := q
  unfold kv
  go_enter Ybaz.func4, Ybaz.ntmps4
  go_wp2
  go_ret
  exact ⟨rfl, (Below.refl _ w).alloc (Nat.le_refl _) _⟩
set_option maxHeartbeats 1000000 in
set_option maxRecDepth 100000 in
/-- The law at a nil receiver. -/
theorem law_nil (a0 : Option Addr) (n cap0 : Nat) (a1 : Option Addr) (m1 cap1 : Nat) (qn qm : ByteArray) (mode pick : Int) (w : World) (hn : n ≤ 65536) (hm1 : m1 ≤ 65536) :
    Calls Ybaz.prog 3 #[.slice a0 n cap0, .slice a1 m1 cap1, .string qn, .string qm, .int .u8 mode, .int .u16 pick, .bool true] w fun e w' => e = .returned (.bool true) ∧ Below w.heap.size w w' := by
  have hd0 : decide ((65536 : Int) < (n : Int)) = false := by simp; omega
  have hd1 : decide ((65536 : Int) < (m1 : Int)) = false := by simp; omega
  have hb := before_nil (qn, qm) w
  have hkv : Hid (kv (qn, qm) = .agg #[.string qn, .string qm]) := rfl
  rw [hkv.out] at hb
  go_enter Ybaz.func3, Ybaz.ntmps3
  go_wp2_with (go_at_call 4; refine hb.mono ?_; rintro e w1 ⟨rfl, b1⟩)
  go_ret
  exact ⟨rfl, b1⟩
set_option maxHeartbeats 1000000 in
set_option maxRecDepth 100000 in
/-- More than the law looks at. -/
theorem law_big (a0 : Option Addr) (n cap0 : Nat) (a1 : Option Addr) (m1 cap1 : Nat) (qn qm : ByteArray) (mode pick : Int) (nr : Bool) (w : World) (hb : 65536 < n ∨ 65536 < m1) :
    Calls Ybaz.prog 3 #[.slice a0 n cap0, .slice a1 m1 cap1, .string qn, .string qm, .int .u8 mode, .int .u16 pick, .bool nr] w fun e w' => e = .returned (.bool true) ∧ Below w.heap.size w w' := by
  by_cases h : 65536 < n
  · have hd0 : decide ((65536 : Int) < (n : Int)) = true := by simp; omega
    go_enter Ybaz.func3, Ybaz.ntmps3
    go_wp2
    go_ret
    exact ⟨rfl, Below.refl _ _⟩
  · have hd0 : decide ((65536 : Int) < (n : Int)) = false := by simp; omega
    have hd1 : decide ((65536 : Int) < (m1 : Int)) = true := by simp; omega
    go_enter Ybaz.func3, Ybaz.ntmps3
    go_wp2
    go_ret
    exact ⟨rfl, Below.refl _ _⟩
end Go.Proofs.YbulkegkgGreat
