import Derived.Test.YbulkegnmDoorProg
import Derived.Test.YbulkegnmDoorTab
import Derived.Test.YbulkegnmDoorSl
import Derived.WalkLawsBesides
import Derived.Deep.CutRange
namespace Go.Proofs.YbulkegnmDoor
open Go Go.RowKit

/-- Where the search for x starts in a table of 2^k slots. -/
def hm (k : Nat) (x : Int) : Nat := ((x % 18446744073709551616).toNat * 11400714819323198485 % 18446744073709551616) / 2 ^ (64 - k)
theorem hm_lt (k : Nat) (x : Int) (hk : k ≤ 64) : hm k x < 2 ^ k := by
  unfold hm
  rw [Nat.div_lt_iff_lt_mul (Nat.two_pow_pos _), ← Nat.pow_add, show k + (64 - k) = 64 by omega]
  exact Nat.mod_lt _ (by decide)
theorem hm_int (k : Nat) (x : Int) (hk4 : 4 ≤ k) (hk : k ≤ 15) : IntKind.i64.wrap (IntKind.u64.wrap (IntKind.u64.wrap x * 11400714819323198485) / 2 ^ min (((64 - k : Nat) : Int).toNat) 64) = (hm k x : Int) := by
  have h1 : IntKind.u64.wrap x = ((x % 18446744073709551616).toNat : Int) := by rw [IntKind.wrap_u64]; omega
  have h2 : ∀ a : Nat, IntKind.u64.wrap ((a : Int) * 11400714819323198485) = ((a * 11400714819323198485 % 18446744073709551616 : Nat) : Int) := by intro a; rw [IntKind.wrap_u64]; omega
  have h3 := hm_lt k x (by omega)
  have h4 : 2 ^ k ≤ 2 ^ 15 := Nat.pow_le_pow_right (by omega) hk
  have h5 : hm k x < 32768 := by have : (2 : Nat) ^ 15 = 32768 := by decide
                                 omega
  rw [h1, h2, Int.toNat_natCast, show min (64 - k) 64 = 64 - k by omega]
  have h6 : (((x % 18446744073709551616).toNat * 11400714819323198485 % 18446744073709551616 : Nat) : Int) / 2 ^ (64 - k) = (hm k x : Int) := by
    unfold hm
    rw [Int.natCast_ediv, Int.natCast_pow]
    rfl
  rw [h6, IntKind.wrap_i64]
  omega
theorem bits_and_i64_nat (a b : Nat) (ha : a < 9223372036854775808) (hb : b < 9223372036854775808) : bits .and .i64 (a : Int) (b : Int) = ((a &&& b : Nat) : Int) := by
  have hx : a &&& b < 2 ^ 63 := Nat.and_lt_two_pow _ (by omega)
  have h1 : (BitVec.ofInt 64 (a : Int)).toNat = a := by
    rw [BitVec.ofInt_natCast, BitVec.toNat_ofNat]; exact Nat.mod_eq_of_lt (by omega)
  have h2 : (BitVec.ofInt 64 (b : Int)).toNat = b := by
    rw [BitVec.ofInt_natCast, BitVec.toNat_ofNat]; exact Nat.mod_eq_of_lt (by omega)
  show IntKind.i64.wrap ((BitVec.ofInt 64 (a : Int) &&& BitVec.ofInt 64 (b : Int)).toNat : Int) = _
  rw [BitVec.toNat_and, h1, h2, IntKind.wrap_i64]
  omega
theorem next_slot (k n i : Nat) (hn : n = 2 ^ k) (hk : k ≤ 15) (hi : i < n) : bits .and .i64 ((i : Int) + 1) ((n : Int) - 1) = (((i + 1) % n : Nat) : Int) := by
  have h4 : 2 ^ k ≤ 2 ^ 15 := Nat.pow_le_pow_right (by omega) hk
  have h5 : (2 : Nat) ^ 15 = 32768 := by decide
  have h6 : 0 < 2 ^ k := Nat.two_pow_pos _
  rw [show (i : Int) + 1 = ((i + 1 : Nat) : Int) by omega, show (n : Int) - 1 = ((n - 1 : Nat) : Int) by omega, bits_and_i64_nat _ _ (by omega) (by omega), hn, Nat.and_two_pow_sub_one_eq_mod]

set_option maxRecDepth 100000 in
theorem home_any (O k : Nat) (x : Int) (w : World) (hk4 : 4 ≤ k) (hk : k ≤ 15) (h1 : w.cell? ⟨O, 1, none⟩ = some (.int .u64 ((64 - k : Nat) : Int))) :
    Calls Ybad.prog 23 #[.pointer (some ⟨O, 0, none⟩), .int .i64 x] w fun e w' => e = .returned (.int .i64 (hm k x)) ∧ w' = w := by
  have hh := hm_int k x hk4 hk
  have h0 : (0 : Int) ≤ ((64 - k : Nat) : Int) := by omega
  generalize ((64 - k : Nat) : Int) = s at h1 hh h0
  go_enter Ybad.func23, Ybad.ntmps23
  go_wp2
  go_ret
  exact ⟨rfl, rfl⟩
end Go.Proofs.YbulkegnmDoor
