import Derived.Test.YbulkegooDoorShelf
import Derived.Test.YbulkegooDoorBuf
import Derived.Lib.ItoaWalk
import Derived.Lib.ItoaMem
import Derived.Lib.AppendIntMem
import Derived.Lib.ItoaLen
import Derived.Lib.Slices
import Derived.Lib.Hide
import Derived.OwnWalk
import Derived.WalkKit
import Derived.BigCall
import Derived.BigGuard
import Derived.CellFam
namespace Go.Proofs.YbulkegooDoor
open Go.RowKit Go.Sort Go.Lib

theorem info5 : (Ybad.prog.info? 5).map (fun i => (i.zero, i.size, i.bytes)) = some (some (.int .u8 0), 1, 1) := by kernel_rfl
theorem dec_len_small {u : Nat} (hu : u < 100) : (Lib.decDigits u).length ≤ 20 := by
  rw [Lib.decDigits_length]
  by_cases h10 : u < 10
  · rw [Lib.nDigits_small h10]; omega
  · rw [Lib.nDigits_big h10, Lib.nDigits_small (show u / 10 < 10 by omega)]; omega
theorem strCells_mk (l : List UInt8) : strCells ⟨l.toArray⟩ = byteCells l := rfl

set_option maxHeartbeats 6400000 in
set_option maxRecDepth 100000 in
/-- internal/strconv.AppendUint(dst, u, 10), u below 100, onto a slice of the call's own. -/
theorem appendUint_small (B u : Nat) (hu : u < 100) (sv : Value) (xs : List Value) (w : World) (h : OwnB w B sv xs) (hBw : B ≤ w.heap.size) (hlim : xs.length + 20 ≤ 140737488355328) :
    Calls Ybad.prog 9 #[sv, .int .u64 u, .int .i64 10] w fun e w' => ∃ v', e = .returned v' ∧ OwnB w' B v' (xs ++ Lib.byteCells (Lib.decDigits u)) ∧ Below B w w' := by
  obtain ⟨i0, hi, hz0, hz1, hz2⟩ := info_parts info5
  have hlen := dec_len_small hu
  have hsz : (⟨(Lib.decDigits u).toArray⟩ : ByteArray).size = (Lib.decDigits u).length := by simp [ByteArray.size]
  go_enter Ybad.func9, Ybad.ntmps9
  go_wp2_with (first
    | (go_at_call 10; refine (Ybad.internal_strconv_small u hu _).mono ?_; rintro e w' ⟨rfl, rfl⟩)
    | (at_builtin; refine wpList_append_B_string _ rfl (.tmp 13) (.tmp 16) 37 9 rfl B 5 i0 Ybad.underlying37 Ybad.underlying9 hi hz0 hz1 hz2 _ _ rfl h ⟨(Lib.decDigits u).toArray⟩ rfl (by rw [hsz]; omega) hBw ?_))
  intro v' w1 hown' hbel
  go_wp2
  go_ret
  exact ⟨v', rfl, hown', h.below hbel hBw⟩

set_option maxHeartbeats 12800000 in
set_option maxRecDepth 100000 in
/-- .. u from 100 on. -/
theorem appendUint_big (B u : Nat) (hu : 100 ≤ u) (hu64 : u < 18446744073709551616) (sv : Value) (xs : List Value) (w : World) (h : OwnB w B sv xs) (hBw : B ≤ w.heap.size) (hlim : xs.length + 20 ≤ 140737488355328)
    (htab : Lib.TabIs Ybad.prog w "internal/strconv.uint64pow10" .u64 Lib.pow10Tab) :
    Calls Ybad.prog 9 #[sv, .int .u64 u, .int .i64 10] w fun e w' => ∃ v', e = .returned v' ∧ OwnB w' B v' (xs ++ Lib.byteCells (Lib.decDigits u)) ∧ Below B w w' := by
  obtain ⟨i0, hi, hz0, hz1, hz2⟩ := info_parts info5
  have hu1 : 1 ≤ u := by omega
  have hnd20 : Lib.nDigits u ≤ 20 := by have := Lib.numDigits_eq u hu1 hu64; split at this <;> omega
  have hal : Ybad.prog.arrayLen 35 = 24 := by simp [Program.arrayLen, Ybad.underlying35]
  have hsl : ∀ W, (Instr.sliceAt 35 (.pointer (some ⟨w.heap.size, 0, none⟩)) none (some (.int .i64 (Lib.nDigits u : Int))) none).run Ybad.prog W = .ok (.slice (some ⟨w.heap.size, 0, none⟩) (Lib.nDigits u) 24) W := fun W => by
    rw [run_sliceAt_array_h W 35 ⟨w.heap.size, 0, none⟩ (by simp [Program.arrayLen, Program.elem, Ybad.underlying35]) .i64 (Lib.nDigits u : Int) (by omega) (by rw [hal]; omega)]
    go_simp
  have hH0 := Lib.holds_zero0 w 35 (Lib.nDigits u) (by omega)
  have hfmt := Ybad.internal_strconv_formatBase10 w.heap.size 0 24 u (Array.replicate (Lib.nDigits u) 0) (w.alloc (.cells Lib.zeros24 35)) hH0 (by rw [Array.size_replicate]; exact Lib.lt_pow_nDigits u) hu64 (by rw [Array.size_replicate]; omega)
  rw [Array.size_replicate] at hfmt
  have HH0 := Lib.hid hH0
  have iu : (100 : Int) ≤ (u : Int) := by omega
  clear hH0 hal
  go_enter Ybad.func9, Ybad.ntmps9
  go_wp2_with (first
    | (go_at_call 11; refine (Ybad.internal_strconv_numDigits u hu1 hu64 _ (Lib.tabIs_alloc htab _)).mono ?_; rintro e w' ⟨rfl, rfl⟩))
  go_at_call 12
  refine hfmt.mono ?_
  rintro e w' ⟨rfl, k, v', dk, rfl, hF⟩
  have hcells : ∀ j u', (Lib.byteCells (Lib.decDigits u))[j]? = some u' → ((putRow (fun (b : UInt8) => Value.int .u8 (b.toNat : Int)) (w.alloc (.cells Lib.zeros24 35)) w.heap.size 0 dk).drewN k).cell? ((⟨w.heap.size, 0, none⟩ : Addr).add j) = some u' := by
    intro j u' hj
    have hjl : j < (Lib.decDigits u).length := by
      have h5 := (List.getElem?_eq_some_iff.1 hj).1
      rwa [Lib.byteCells_length] at h5
    have e5 : (Lib.byteCells (Lib.decDigits u))[j]? = some (Value.int .u8 ((Lib.decDigits u)[j].toNat : Int)) := by simp [Lib.byteCells, hjl]
    rw [e5] at hj
    cases hj
    rw [Lib.row_is_numeral hF j hjl, Lib.add_plain, World.cell?_drewN]
    exact cell?_putRow (fun (b : UInt8) => Value.int .u8 (b.toNat : Int)) _ w.heap.size 0 _ dk HH0.out (by rw [hF.size, Array.size_replicate]) j (by rw [hF.size]; rw [Lib.decDigits_length] at hjl; exact hjl)
  obtain ⟨os, eo⟩ := Lib.fin_at w (.cells Lib.zeros24 35) dk k 0
  have hnx0 : Below w.heap.size w ((putRow (fun (b : UInt8) => Value.int .u8 (b.toNat : Int)) (w.alloc (.cells Lib.zeros24 35)) w.heap.size 0 dk).drewN k) := by rw [eo]; exact Lib.below_grow w.heap.size w (Nat.le_refl _) k os
  have hnx2 : Below B w ((putRow (fun (b : UInt8) => Value.int .u8 (b.toNat : Int)) (w.alloc (.cells Lib.zeros24 35)) w.heap.size 0 dk).drewN k) := by rw [eo]; exact Lib.below_grow B w hBw k os
  have hsz2 : w.heap.size ≤ ((putRow (fun (b : UInt8) => Value.int .u8 (b.toNat : Int)) (w.alloc (.cells Lib.zeros24 35)) w.heap.size 0 dk).drewN k).heap.size := by rw [eo]; exact Lib.size_grow w k os
  generalize (putRow (fun (b : UInt8) => Value.int .u8 (b.toNat : Int)) (w.alloc (.cells Lib.zeros24 35)) w.heap.size 0 dk).drewN k = W2 at hcells hnx0 hnx2 hsz2 ⊢
  have hown2 : OwnB W2 B sv xs := h.keep (fun j hj => hnx0.block j hj)
  clear eo HH0 hfmt
  go_wp2_with (at_builtin; refine wpList_append_B _ rfl (.tmp 24) (.tmp 26) 37 rfl B 5 i0 Ybad.underlying37 hi hz0 hz1 hz2 _ _ rfl hown2 ⟨w.heap.size, 0, none⟩ (Lib.nDigits u) 24 (Lib.byteCells (Lib.decDigits u)) rfl ?c0 hcells ?c2 ?c3 ?c4 ?_)
  case c0 => rw [Lib.byteCells_length, Lib.decDigits_length]
  case c2 => intro u' hu'; simp only [Lib.byteCells, List.mem_map] at hu'; obtain ⟨b, _, rfl⟩ := hu'; rfl
  case c3 => rw [Lib.byteCells_length, Lib.decDigits_length]; omega
  case c4 => omega
  intro v2 w3 hown' hgrow
  go_wp2
  go_ret
  exact ⟨v2, rfl, hown', hnx2.trans (hown2.below hgrow (by omega))⟩
theorem appendUint (B u : Nat) (hu64 : u < 18446744073709551616) (sv : Value) (xs : List Value) (w : World) (h : OwnB w B sv xs) (hBw : B ≤ w.heap.size) (hlim : xs.length + 20 ≤ 140737488355328)
    (htab : Lib.TabIs Ybad.prog w "internal/strconv.uint64pow10" .u64 Lib.pow10Tab) :
    Calls Ybad.prog 9 #[sv, .int .u64 u, .int .i64 10] w fun e w' => ∃ v', e = .returned v' ∧ OwnB w' B v' (xs ++ Lib.byteCells (Lib.decDigits u)) ∧ Below B w w' := by
  by_cases hu : u < 100
  · exact appendUint_small B u hu sv xs w h hBw hlim
  · exact appendUint_big B u (by omega) hu64 sv xs w h hBw hlim htab

set_option maxHeartbeats 6400000 in
set_option maxRecDepth 100000 in
/-- internal/strconv.AppendInt at a number that is not negative. -/
theorem appendInt0 (B u : Nat) (hu : u ≤ 9223372036854775807) (sv : Value) (xs : List Value) (w : World) (h : OwnB w B sv xs) (hBw : B ≤ w.heap.size) (hlim : xs.length + 20 ≤ 140737488355328)
    (htab : Lib.TabIs Ybad.prog w "internal/strconv.uint64pow10" .u64 Lib.pow10Tab) :
    Calls Ybad.prog 8 #[sv, .int .i64 u, .int .i64 10] w fun e w' => ∃ v', e = .returned v' ∧ OwnB w' B v' (xs ++ Lib.byteCells (Lib.decDigits u)) ∧ Below B w w' := by
  go_enter Ybad.func8, Ybad.ntmps8
  go_wp2_with (go_at_call 9; refine (appendUint B u (by omega) sv xs w h hBw hlim htab).mono ?_; rintro e w2 ⟨v2, rfl, hown2, hnx2⟩)
  go_wp2
  first | go_ret | go_ret2
  exact ⟨v2, rfl, hown2, hnx2⟩
set_option maxHeartbeats 6400000 in
set_option maxRecDepth 100000 in
/-- strconv.AppendInt at a number that is not negative. -/
theorem appendInt (B u : Nat) (hu : u ≤ 9223372036854775807) (sv : Value) (xs : List Value) (w : World) (h : OwnB w B sv xs) (hBw : B ≤ w.heap.size) (hlim : xs.length + 20 ≤ 140737488355328)
    (htab : Lib.TabIs Ybad.prog w "internal/strconv.uint64pow10" .u64 Lib.pow10Tab) :
    Calls Ybad.prog 7 #[sv, .int .i64 u, .int .i64 10] w fun e w' => ∃ v', e = .returned v' ∧ OwnB w' B v' (xs ++ Lib.byteCells (Lib.decDigits u)) ∧ Below B w w' := by
  go_enter Ybad.func7, Ybad.ntmps7
  go_wp2_with (go_at_call 8; refine (appendInt0 B u hu sv xs w h hBw hlim htab).mono ?_; rintro e w2 ⟨v2, rfl, hown2, hnx2⟩)
  go_wp2
  go_ret
  exact ⟨v2, rfl, hown2, hnx2⟩
end Go.Proofs.YbulkegooDoor
