import Derived.Test.YbulkegmyEntry
import Derived.ChangeKeysEq
import Derived.Laws.StructEq
namespace Go.Proofs.Ybulkegmy
open Go.RowKit

def arr16 (z : Nat → Int) : Array Value := ((List.range 16).map (fun j => Value.int .u8 (z j))).toArray
theorem arr16_size (z : Nat → Int) : (arr16 z).size = 16 := by simp [arr16]
theorem arr16_get (z : Nat → Int) (i : Nat) (h : i < 16) : (arr16 z)[i]? = some (.int .u8 (z i)) := by simp [arr16, h]
def arr19 (z : Nat → Int) : Array Value := ((List.range 19).map (stF z (.int .i64 0) (.slice none 0 0) (.slice none 0 0))).toArray
theorem size22 : (Yba.prog.info? 22).map (·.size) = some 32 := by kernel_rfl
theorem size23 : (Yba.prog.info? 23).map (·.size) = some 16 := by kernel_rfl
theorem built28 (z : Nat → Int) : Yba.prog.built 28 [(0, .agg (arr16 z))] = some (arr19 z) := by kernel_rfl

theorem eqItems_same (d : Nat) (z : Nat → Int) (w : World) : ∀ is : List Nat, (∀ i ∈ is, i < 32) → (Op.eqItems (d + 1) 5 1 (arr32 z) (arr32 z) is).run Yba.prog w = .ok true w
  | [], _ => by simp [Op.eqItems]
  | i :: is, h => by
    have hp : (part 5 (arr32 z) (i * 1)).run Yba.prog w = .ok (.int .u8 (z i)) w := by
      rw [Nat.mul_one]
      exact run_part_plain w (by kernel_rfl) (arr32_get z i (h i (by simp)))
    simp only [Op.eqItems, Sem.run_bind, hp, Result.andThen_ok, run_equalIn_int w d 5 .u8 .u8 (z i) (z i) Yba.underlying5]
    simp [eqItems_same d z w is (fun j hj => h j (by simp [hj]))]
theorem cells5 : Yba.prog.cellsOf 5 = 1 := by kernel_rfl
theorem eq22 (z : Nat → Int) (w : World) : (binOp .eql 22 (.agg (arr32 z)) (.agg (arr32 z))).run Yba.prog w = .ok (.bool true) w := by
  obtain ⟨i5, i51, _⟩ := info_parts info5
  rw [run_eql_struct, run_equalIn_array w 9999 _ _ Yba.underlying22 i51, cells5, eqItems_same 9998 z w _ (fun i hi => by simpa using hi)]
  rfl
end Go.Proofs.Ybulkegmy
