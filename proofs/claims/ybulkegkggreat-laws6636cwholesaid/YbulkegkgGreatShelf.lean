/-
  DERIVED: THE SHELF's CONTRACTS AT THIS DUMP, IN PLAIN WORDS (tools/lay-plain.mjs out of 'YbazShelf.lean', which tools/lay-shelf.mjs wrote): THE SAME DECLARATIONS UNDER THE SAME NAMES: 'import', 'namespace', 'open', 'def', 'theorem' AND NOTHING ELSE: no command of the shelf's: FOR A HAND-IN. Each laying: the table of numbers ('.._ren') and one theorem, a field a fact of the dump's own or the kernel's comparison; each contract: ONE APPLICATION.
-/
import Derived.Shelf.Small.Bits
import Derived.Shelf.Small.Strs
import Derived.Shelf.Strconv.Itoa0
import Derived.Shelf.SlSortCmp.WholeK
import Derived.Ground.SlsfProg
import Derived.Test.YbulkegkgGreatProg
namespace Go.Proofs
open Go.Shelf
def Ybaz.lays128_ren : Go.Shelf.Ren := ⟨fun | 128 => 26 | n => n, fun | 51 => 87 | 3 => 3 | 4 => 4 | 46 => 75 | 5 => 5 | 9 => 9 | n => n, fun | n => n⟩
theorem Ybaz.lays128 : Go.Proofs.Lays.n128 Ybaz.prog Ybaz.lays128_ren := {
  mixed := by kernel_rfl
  f128 := Ybaz.func26.trans (congrArg some (by kernel_rfl))
  t3 := Ybaz.underlying3
  a3 := Ybaz.isAgg3
  z3 := Ybaz.sizeOf3
  v3 := Ybaz.zeroValue3
  t4 := Ybaz.underlying4
  a4 := Ybaz.isAgg4
  z4 := Ybaz.sizeOf4
  v4 := Ybaz.zeroValue4
  t5 := Ybaz.underlying5
  a5 := Ybaz.isAgg5
  z5 := Ybaz.sizeOf5
  v5 := Ybaz.zeroValue5
  t9 := Ybaz.underlying9
  a9 := Ybaz.isAgg9
  z9 := Ybaz.sizeOf9
  v9 := Ybaz.zeroValue9
  t46 := Ybaz.underlying75
  a46 := Ybaz.isAgg75
  z46 := Ybaz.sizeOf75
  v46 := Ybaz.zeroValue75
  t51 := Ybaz.underlying87
  a51 := Ybaz.isAgg87
  z51 := Ybaz.sizeOf87
  v51 := Ybaz.zeroValue87 }
/-- bits.Len32: "Len32 returns the minimum number of bits required to represent x; the result is 0 for x == 0.": IT RETURNS 'Lib.bitLen x'; the world is as it was. ('h0', 'h1': x is a uint32.) (LAID: no walk: one application.) -/
theorem Ybaz.bits_Len32 (x : Int) (w : World) (h0 : 0 ≤ x) (h1 : x ≤ 4294967295) :
    Calls Ybaz.prog 26 #[.int .u32 x] w fun e w' => e = .returned (.int .i64 (Lib.bitLen x.toNat)) ∧ w' = w := Any.bits_Len32 Ybaz.lays128 x w h0 h1
def Ybaz.lays125_ren : Go.Shelf.Ren := ⟨fun | 125 => 13 | 128 => 26 | 129 => 27 | n => n, fun | 46 => 75 | 3 => 3 | 51 => 87 | 53 => 48 | 4 => 4 | 5 => 5 | 9 => 9 | n => n, fun | n => n⟩
theorem Ybaz.lays125 : Go.Proofs.Lays.n125 Ybaz.prog Ybaz.lays125_ren := {
  mixed := by kernel_rfl
  f125 := Ybaz.func13.trans (congrArg some (by kernel_rfl))
  f128 := Ybaz.func26.trans (congrArg some (by kernel_rfl))
  f129 := Ybaz.func27.trans (congrArg some (by kernel_rfl))
  t3 := Ybaz.underlying3
  a3 := Ybaz.isAgg3
  z3 := Ybaz.sizeOf3
  v3 := Ybaz.zeroValue3
  t4 := Ybaz.underlying4
  a4 := Ybaz.isAgg4
  z4 := Ybaz.sizeOf4
  v4 := Ybaz.zeroValue4
  t5 := Ybaz.underlying5
  a5 := Ybaz.isAgg5
  z5 := Ybaz.sizeOf5
  v5 := Ybaz.zeroValue5
  t9 := Ybaz.underlying9
  a9 := Ybaz.isAgg9
  z9 := Ybaz.sizeOf9
  v9 := Ybaz.zeroValue9
  t46 := Ybaz.underlying75
  a46 := Ybaz.isAgg75
  z46 := Ybaz.sizeOf75
  v46 := Ybaz.zeroValue75
  t51 := Ybaz.underlying87
  a51 := Ybaz.isAgg87
  z51 := Ybaz.sizeOf87
  v51 := Ybaz.zeroValue87
  t53 := Ybaz.underlying48
  a53 := Ybaz.isAgg48
  z53 := Ybaz.sizeOf48
  v53 := Ybaz.zeroValue48 }
/-- bits.Len: "Len returns the minimum number of bits required to represent x; the result is 0 for x == 0.": IT RETURNS 'Lib.bitLen x'; the world is as it was. (A uint has 64 bits in the model.) ITS CALLEE bits.Len64 IS MET BY ITS OWN CONTRACT OFF THE SHELF (lay that first). (LAID: no walk: one application.) -/
theorem Ybaz.bits_Len (x : Int) (w : World) (h0 : 0 ≤ x) (h1 : x ≤ 18446744073709551615) :
    Calls Ybaz.prog 13 #[.int .u64 x] w fun e w' => e = .returned (.int .i64 (Lib.bitLen x.toNat)) ∧ w' = w := Any.bits_Len Ybaz.lays125 x w h0 h1
def Ybaz.lays213_ren : Go.Shelf.Ren := ⟨fun | 213 => 36 | 265 => 38 | n => n, fun | 9 => 9 | 3 => 3 | n => n, fun | n => n⟩
theorem Ybaz.lays213 : Go.Proofs.Lays.n213 Ybaz.prog Ybaz.lays213_ren := {
  mixed := by kernel_rfl
  f213 := Ybaz.func36.trans (congrArg some (by kernel_rfl))
  f265 := Ybaz.func38.trans (congrArg some (by kernel_rfl))
  t3 := Ybaz.underlying3
  a3 := Ybaz.isAgg3
  z3 := Ybaz.sizeOf3
  v3 := Ybaz.zeroValue3
  t9 := Ybaz.underlying9
  a9 := Ybaz.isAgg9
  z9 := Ybaz.sizeOf9
  v9 := Ybaz.zeroValue9 }
open Go.RowKit in
/-- internal/bytealg.CompareString (what strings.Compare calls): IT RETURNS 'Lib.compareBytes a b'; the world is as it was. (LAID: no walk: one application.) -/
theorem Ybaz.bytealg_CompareString (a b : ByteArray) (w : World) :
    Calls Ybaz.prog 36 #[.string a, .string b] w fun e w' => e = .returned (.int .i64 (Lib.compareBytes a.data.toList b.data.toList)) ∧ w' = w := Any.bytealg_CompareString Ybaz.lays213 a b w
def Ybaz.lays106_ren : Go.Shelf.Ren := ⟨fun | 106 => 30 | 213 => 36 | 265 => 38 | n => n, fun | 9 => 9 | 3 => 3 | n => n, fun | n => n⟩
theorem Ybaz.lays106 : Go.Proofs.Lays.n106 Ybaz.prog Ybaz.lays106_ren := {
  mixed := by kernel_rfl
  f106 := Ybaz.func30.trans (congrArg some (by kernel_rfl))
  f213 := Ybaz.func36.trans (congrArg some (by kernel_rfl))
  f265 := Ybaz.func38.trans (congrArg some (by kernel_rfl))
  t3 := Ybaz.underlying3
  a3 := Ybaz.isAgg3
  z3 := Ybaz.sizeOf3
  v3 := Ybaz.zeroValue3
  t9 := Ybaz.underlying9
  a9 := Ybaz.isAgg9
  z9 := Ybaz.sizeOf9
  v9 := Ybaz.zeroValue9 }
open Go.RowKit in
/-- strings.Compare: "Compare returns an integer comparing two strings lexicographically. The result will be 0 if a == b, -1 if a < b, and +1 if a > b.": IT RETURNS 'Lib.compareBytes a b'; the world is as it was. (LAID: no walk: one application.) -/
theorem Ybaz.strings_Compare (a b : ByteArray) (w : World) :
    Calls Ybaz.prog 30 #[.string a, .string b] w fun e w' => e = .returned (.int .i64 (Lib.compareBytes a.data.toList b.data.toList)) ∧ w' = w := Any.strings_Compare Ybaz.lays106 a b w
def Ybaz.lays129_ren : Go.Shelf.Ren := ⟨fun | 129 => 27 | n => n, fun | 53 => 48 | 3 => 3 | 4 => 4 | 46 => 75 | 5 => 5 | 9 => 9 | n => n, fun | n => n⟩
theorem Ybaz.lays129 : Go.Proofs.Lays.n129 Ybaz.prog Ybaz.lays129_ren := {
  mixed := by kernel_rfl
  f129 := Ybaz.func27.trans (congrArg some (by kernel_rfl))
  t3 := Ybaz.underlying3
  a3 := Ybaz.isAgg3
  z3 := Ybaz.sizeOf3
  v3 := Ybaz.zeroValue3
  t4 := Ybaz.underlying4
  a4 := Ybaz.isAgg4
  z4 := Ybaz.sizeOf4
  v4 := Ybaz.zeroValue4
  t5 := Ybaz.underlying5
  a5 := Ybaz.isAgg5
  z5 := Ybaz.sizeOf5
  v5 := Ybaz.zeroValue5
  t9 := Ybaz.underlying9
  a9 := Ybaz.isAgg9
  z9 := Ybaz.sizeOf9
  v9 := Ybaz.zeroValue9
  t46 := Ybaz.underlying75
  a46 := Ybaz.isAgg75
  z46 := Ybaz.sizeOf75
  v46 := Ybaz.zeroValue75
  t53 := Ybaz.underlying48
  a53 := Ybaz.isAgg48
  z53 := Ybaz.sizeOf48
  v53 := Ybaz.zeroValue48 }
/-- bits.Len64: "Len64 returns the minimum number of bits required to represent x; the result is 0 for x == 0.": IT RETURNS 'Lib.bitLen x'; the world is as it was. ('h0', 'h1': x is a uint64.) (LAID: no walk: one application.) -/
theorem Ybaz.bits_Len64 (x : Int) (w : World) (h0 : 0 ≤ x) (h1 : x ≤ 18446744073709551615) :
    Calls Ybaz.prog 27 #[.int .u64 x] w fun e w' => e = .returned (.int .i64 (Lib.bitLen x.toNat)) ∧ w' = w := Any.bits_Len64 Ybaz.lays129 x w h0 h1
def Ybaz.sortK_ren : Go.Shelf.Ren := ⟨fun | 6 => 5 | 15 => 13 | 14 => 12 | 28 => 26 | 29 => 27 | 20 => 18 | 21 => 19 | 22 => 20 | 23 => 21 | 24 => 22 | 25 => 23 | 26 => 24 | 27 => 25 | 46 => 31 | 47 => 32 | 48 => 33 | 49 => 34 | 50 => 35 | 57 => 37 | n => n, fun | 22 => 29 | 24 => 28 | 25 => 33 | 3 => 3 | 39 => 75 | 0 => 0 | 53 => 87 | 55 => 48 | 4 => 4 | 46 => 81 | 45 => 80 | 50 => 76 | 5 => 5 | 9 => 9 | 66 => 92 | 70 => 96 | 76 => 98 | 77 => 99 | n => n, fun | n => n⟩
theorem Ybaz.sortK : Go.Proofs.SlLaysF0.n6 Ybaz.prog Ybaz.sortK_ren := {
  mixed := by kernel_rfl
  f6 := ⟨Ybaz.f5.name, by decide, Ybaz.func5.trans (congrArg some (by kernel_rfl))⟩
  f14 := ⟨Ybaz.f12.name, by decide, Ybaz.func12.trans (congrArg some (by kernel_rfl))⟩
  f15 := Ybaz.func13.trans (congrArg some (by kernel_rfl))
  f20 := ⟨Ybaz.f18.name, by decide, Ybaz.func18.trans (congrArg some (by kernel_rfl))⟩
  f21 := ⟨Ybaz.f19.name, by decide, Ybaz.func19.trans (congrArg some (by kernel_rfl))⟩
  f22 := ⟨Ybaz.f20.name, by decide, Ybaz.func20.trans (congrArg some (by kernel_rfl))⟩
  f23 := ⟨Ybaz.f21.name, by decide, Ybaz.func21.trans (congrArg some (by kernel_rfl))⟩
  f24 := ⟨Ybaz.f22.name, by decide, Ybaz.func22.trans (congrArg some (by kernel_rfl))⟩
  f25 := ⟨Ybaz.f23.name, by decide, Ybaz.func23.trans (congrArg some (by kernel_rfl))⟩
  f26 := ⟨Ybaz.f24.name, by decide, Ybaz.func24.trans (congrArg some (by kernel_rfl))⟩
  f27 := ⟨Ybaz.f25.name, by decide, Ybaz.func25.trans (congrArg some (by kernel_rfl))⟩
  f28 := Ybaz.func26.trans (congrArg some (by kernel_rfl))
  f29 := Ybaz.func27.trans (congrArg some (by kernel_rfl))
  f46 := ⟨Ybaz.f31.name, by decide, Ybaz.func31.trans (congrArg some (by kernel_rfl))⟩
  f47 := Ybaz.func32.trans (congrArg some (by kernel_rfl))
  f48 := Ybaz.func33.trans (congrArg some (by kernel_rfl))
  f49 := ⟨Ybaz.f34.name, by decide, Ybaz.func34.trans (congrArg some (by kernel_rfl))⟩
  f50 := ⟨Ybaz.f35.name, by decide, Ybaz.func35.trans (congrArg some (by kernel_rfl))⟩
  f57 := ⟨Ybaz.f37.name, by decide, Ybaz.func37.trans (congrArg some (by kernel_rfl))⟩
  t0 := Ybaz.underlying0
  a0 := Ybaz.isAgg0
  z0 := Ybaz.sizeOf0
  v0 := Ybaz.zeroValue0
  t3 := Ybaz.underlying3
  a3 := Ybaz.isAgg3
  z3 := Ybaz.sizeOf3
  v3 := Ybaz.zeroValue3
  t4 := Ybaz.underlying4
  a4 := Ybaz.isAgg4
  z4 := Ybaz.sizeOf4
  v4 := Ybaz.zeroValue4
  t5 := Ybaz.underlying5
  a5 := Ybaz.isAgg5
  z5 := Ybaz.sizeOf5
  v5 := Ybaz.zeroValue5
  t9 := Ybaz.underlying9
  a9 := Ybaz.isAgg9
  z9 := Ybaz.sizeOf9
  v9 := Ybaz.zeroValue9
  t22 := Ybaz.underlying29
  a22 := Ybaz.isAgg29
  z22 := Ybaz.sizeOf29
  v22 := Ybaz.zeroValue29
  t25 := Ybaz.underlying33
  a25 := Ybaz.isAgg33
  z25 := Ybaz.sizeOf33
  v25 := Ybaz.zeroValue33
  t39 := Ybaz.underlying75
  a39 := Ybaz.isAgg75
  z39 := Ybaz.sizeOf75
  v39 := Ybaz.zeroValue75
  t45 := Ybaz.underlying80
  a45 := Ybaz.isAgg80
  z45 := Ybaz.sizeOf80
  v45 := Ybaz.zeroValue80
  t46 := Ybaz.underlying81
  a46 := Ybaz.isAgg81
  z46 := Ybaz.sizeOf81
  v46 := Ybaz.zeroValue81
  t50 := Ybaz.underlying76
  a50 := Ybaz.isAgg76
  z50 := Ybaz.sizeOf76
  v50 := Ybaz.zeroValue76
  t53 := Ybaz.underlying87
  a53 := Ybaz.isAgg87
  z53 := Ybaz.sizeOf87
  v53 := Ybaz.zeroValue87
  t55 := Ybaz.underlying48
  a55 := Ybaz.isAgg48
  z55 := Ybaz.sizeOf48
  v55 := Ybaz.zeroValue48
  t66 := Ybaz.underlying92
  a66 := Ybaz.isAgg92
  z66 := Ybaz.sizeOf92
  v66 := Ybaz.zeroValue92
  t70 := Ybaz.underlying96
  a70 := Ybaz.isAgg96
  z70 := Ybaz.sizeOf96
  v70 := Ybaz.zeroValue96
  t76 := Ybaz.underlying98
  a76 := Ybaz.isAgg98
  z76 := Ybaz.sizeOf98
  v76 := Ybaz.zeroValue98
  t77 := Ybaz.underlying99
  a77 := Ybaz.isAgg99
  z77 := Ybaz.sizeOf99
  v77 := Ybaz.zeroValue99 }
end Go.Proofs
