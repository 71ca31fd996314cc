import Derived.Test.YbulkegooDoorInt
import Derived.Test.YbulkegooDoorAid
import Derived.Laws.IdiomStrings
import Derived.WalkLawsBesides
import Derived.Deep.CutRange
import Derived.Laws.EntriesVeiled
namespace Go.Proofs.YbulkegooDoor
open Go.RowKit Go.Lib

/-- key[u]. -/
def pth (key : ByteArray) (u : Nat) : ByteArray := ⟨(key.data.toList ++ 91 :: Lib.decDigits u ++ [93]).toArray⟩
set_option maxHeartbeats 6400000 in
set_option maxRecDepth 100000 in
theorem pathString2 (g u : Nat) (key : ByteArray) (hk : key.size ≤ 1048576) (hu : u ≤ 9223372036854775807) (w : World)
    (c0 : w.cell? ⟨g, 0, none⟩ = some (.string key)) (c1 : w.cell? ⟨g, 1, none⟩ = some (.int .i64 (-1))) (c2 : w.cell? ⟨g, 2, none⟩ = some (.string ⟨#[]⟩)) (c3 : w.cell? ⟨g, 3, none⟩ = some (.int .i64 u))
    (htab : Lib.TabIs Ybad.prog w "internal/strconv.uint64pow10" .u64 Lib.pow10Tab) :
    Calls Ybad.prog 6 #[.slice (some ⟨g, 0, none⟩) 2 2] w fun e w' => e = .returned (.string (pth key u)) ∧ Below w.heap.size w w' := by
  obtain ⟨i0, hi, hz0, hz1, hz2⟩ := info_parts info5
  have hT := Lib.tabBelow_of_tabIs htab
  go_enter Ybad.func6, Ybad.ntmps6
  go_upto_region 5 with fail
  have o1 : OwnB (w.alloc (.cells #[.int .u8 0, .int .u8 0, .int .u8 0, .int .u8 0, .int .u8 0, .int .u8 0, .int .u8 0, .int .u8 0, .int .u8 0, .int .u8 0, .int .u8 0, .int .u8 0, .int .u8 0, .int .u8 0, .int .u8 0, .int .u8 0, .int .u8 0, .int .u8 0, .int .u8 0, .int .u8 0, .int .u8 0, .int .u8 0, .int .u8 0, .int .u8 0, .int .u8 0, .int .u8 0, .int .u8 0, .int .u8 0, .int .u8 0, .int .u8 0, .int .u8 0, .int .u8 0, .int .u8 0, .int .u8 0, .int .u8 0, .int .u8 0, .int .u8 0, .int .u8 0, .int .u8 0, .int .u8 0, .int .u8 0, .int .u8 0, .int .u8 0, .int .u8 0, .int .u8 0, .int .u8 0, .int .u8 0, .int .u8 0, .int .u8 0, .int .u8 0, .int .u8 0, .int .u8 0, .int .u8 0, .int .u8 0, .int .u8 0, .int .u8 0, .int .u8 0, .int .u8 0, .int .u8 0, .int .u8 0, .int .u8 0, .int .u8 0, .int .u8 0, .int .u8 0] 38)) w.heap.size (.slice (some ⟨w.heap.size, 0, none⟩) 0 64) [] := ⟨w.heap.size, 64, _, 38, rfl, Nat.le_refl _, heap_alloc_new w _, by simp, by unfold maxLen; omega, rfl, rfl⟩
  have b1 : Below w.heap.size w (w.alloc (.cells #[.int .u8 0, .int .u8 0, .int .u8 0, .int .u8 0, .int .u8 0, .int .u8 0, .int .u8 0, .int .u8 0, .int .u8 0, .int .u8 0, .int .u8 0, .int .u8 0, .int .u8 0, .int .u8 0, .int .u8 0, .int .u8 0, .int .u8 0, .int .u8 0, .int .u8 0, .int .u8 0, .int .u8 0, .int .u8 0, .int .u8 0, .int .u8 0, .int .u8 0, .int .u8 0, .int .u8 0, .int .u8 0, .int .u8 0, .int .u8 0, .int .u8 0, .int .u8 0, .int .u8 0, .int .u8 0, .int .u8 0, .int .u8 0, .int .u8 0, .int .u8 0, .int .u8 0, .int .u8 0, .int .u8 0, .int .u8 0, .int .u8 0, .int .u8 0, .int .u8 0, .int .u8 0, .int .u8 0, .int .u8 0, .int .u8 0, .int .u8 0, .int .u8 0, .int .u8 0, .int .u8 0, .int .u8 0, .int .u8 0, .int .u8 0, .int .u8 0, .int .u8 0, .int .u8 0, .int .u8 0, .int .u8 0, .int .u8 0, .int .u8 0, .int .u8 0] 38)) := (Below.refl _ w).alloc (Nat.le_refl _) _
  have t1 : Turn (fun _ => False) w (w.alloc (.cells #[.int .u8 0, .int .u8 0, .int .u8 0, .int .u8 0, .int .u8 0, .int .u8 0, .int .u8 0, .int .u8 0, .int .u8 0, .int .u8 0, .int .u8 0, .int .u8 0, .int .u8 0, .int .u8 0, .int .u8 0, .int .u8 0, .int .u8 0, .int .u8 0, .int .u8 0, .int .u8 0, .int .u8 0, .int .u8 0, .int .u8 0, .int .u8 0, .int .u8 0, .int .u8 0, .int .u8 0, .int .u8 0, .int .u8 0, .int .u8 0, .int .u8 0, .int .u8 0, .int .u8 0, .int .u8 0, .int .u8 0, .int .u8 0, .int .u8 0, .int .u8 0, .int .u8 0, .int .u8 0, .int .u8 0, .int .u8 0, .int .u8 0, .int .u8 0, .int .u8 0, .int .u8 0, .int .u8 0, .int .u8 0, .int .u8 0, .int .u8 0, .int .u8 0, .int .u8 0, .int .u8 0, .int .u8 0, .int .u8 0, .int .u8 0, .int .u8 0, .int .u8 0, .int .u8 0, .int .u8 0, .int .u8 0, .int .u8 0, .int .u8 0, .int .u8 0] 38)) := (Turn.refl _ _).alloc _
  generalize w.alloc (.cells #[.int .u8 0, .int .u8 0, .int .u8 0, .int .u8 0, .int .u8 0, .int .u8 0, .int .u8 0, .int .u8 0, .int .u8 0, .int .u8 0, .int .u8 0, .int .u8 0, .int .u8 0, .int .u8 0, .int .u8 0, .int .u8 0, .int .u8 0, .int .u8 0, .int .u8 0, .int .u8 0, .int .u8 0, .int .u8 0, .int .u8 0, .int .u8 0, .int .u8 0, .int .u8 0, .int .u8 0, .int .u8 0, .int .u8 0, .int .u8 0, .int .u8 0, .int .u8 0, .int .u8 0, .int .u8 0, .int .u8 0, .int .u8 0, .int .u8 0, .int .u8 0, .int .u8 0, .int .u8 0, .int .u8 0, .int .u8 0, .int .u8 0, .int .u8 0, .int .u8 0, .int .u8 0, .int .u8 0, .int .u8 0, .int .u8 0, .int .u8 0, .int .u8 0, .int .u8 0, .int .u8 0, .int .u8 0, .int .u8 0, .int .u8 0, .int .u8 0, .int .u8 0, .int .u8 0, .int .u8 0, .int .u8 0, .int .u8 0, .int .u8 0, .int .u8 0] 38) = w1 at o1 b1 t1 ⊢
  have O1 : Hid (OwnB w1 w.heap.size (.slice (some ⟨w.heap.size, 0, none⟩) 0 64) []) := o1
  have d0 := t1.cell c0 (fun x => x)
  have d1 := t1.cell c1 (fun x => x)
  have d2 := t1.cell c2 (fun x => x)
  have d3 := t1.cell c3 (fun x => x)
  clear o1
  go_wp2_with fail
  refine wp_loop_rounds 3 ?_
  rw [rounds_succ]
  have z1 := b1.size
  go_wp2_with (at_builtin; refine wpList_append_B_string _ rfl (.tmp 29) (.tmp 31) 37 9 rfl w.heap.size 5 i0 Ybad.underlying37 Ybad.underlying9 hi hz0 hz1 hz2 (.slice (some ⟨w.heap.size, 0, none⟩) 0 64) [] rfl (O1.out.alloc _) key rfl (by simp only [List.length_nil]; omega) (by simp; omega) ?_; intro v2 w2 o2 g2; refine Hid.out ?_)
  refine Lib.hid ?_
  have B2 : Below w.heap.size w w2 := (b1.alloc z1 _).trans ((O1.out.alloc _).below g2 (by simp; omega))
  have T2 : Turn (fun _ => False) w w2 := Turn.ofBelow B2
  have d2 := T2.cell c2 (fun x => x)
  have d3 := T2.cell c3 (fun x => x)
  have z2 := B2.size
  have O2 : Hid (OwnB w2 w.heap.size v2 (strCells key)) := by have := o2; rwa [List.nil_append] at this
  have HB2 : Hid (Below w.heap.size w w2) := B2
  have hsl : (strCells key).length = key.size := strCells_length key
  clear o2 g2 T2 B2 O1 b1 z1 t1 d0 d1
  go_wp2_with fail
  rw [rounds_succ]
  go_upto_region 11 with (at_builtin; refine wpList_append_B _ rfl (.tmp 37) (.tmp 38) 37 rfl w.heap.size 5 i0 Ybad.underlying37 hi hz0 hz1 hz2 v2 (strCells key) rfl ((O2.out.alloc _).alloc _) ⟨w2.heap.size + 1, 0, none⟩ 1 1 [.int .u8 91] rfl rfl ?q1 ?q2 ?q3 ?q4 ?_; (case q1 => intro j u' hj; match j, hj with | 0, hj => simp at hj; subst hj; simp [Addr.add]); (case q2 => intro u' hu'; simp at hu'; subst hu'; rfl); (case q3 => rw [hsl]; simp; omega); (case q4 => simp; omega); intro v3 w3 o3 g3)
  have B3 : Below w.heap.size w w3 := ((HB2.out.alloc z2 _).alloc (by simp; omega) _).trans (((O2.out.alloc _).alloc _).below g3 (by simp; omega))
  have z3 := B3.size
  have HB3 : Hid (Below w.heap.size w w3) := B3
  have O3 : Hid (OwnB w3 w.heap.size v3 (strCells key ++ [.int .u8 91])) := o3
  have k3 : w3.heap[w2.heap.size]? = some (.cells #[.string ⟨#[]⟩, .int .i64 u] 33) := by
    rw [g3.block w2.heap.size (by simp; omega) (fun e => by have := O2.out.lt (k := w2.heap.size) e.symm; omega)]
    rw [heap_alloc_old _ _ (by simp), heap_alloc_new]
  have e3 : w3.cell? ⟨w2.heap.size, 1, none⟩ = some (.int .i64 u) := by rw [cell_of_row _ _ _ _ _ _ k3]; rfl
  clear k3 o3 g3 B3 HB2 O2 d2 d3
  go_upto_region 12 with (go_at_call 7; refine (appendInt w.heap.size u hu v3 _ _ O3.out z3 (by simp [hsl]; omega) (hT w3 HB3.out)).mono ?_; rintro e w4 ⟨v4, rfl, o4, b4⟩)
  have B4 : Below w.heap.size w w4 := HB3.out.trans b4
  have z4 := B4.size
  have HB4 : Hid (Below w.heap.size w w4) := B4
  have hdl : (Lib.decDigits u).length ≤ 21 := by have := Lib.itoa_length_le (u : Int) (by omega) (by omega); rwa [Lib.itoa_nonneg] at this
  have O4 : Hid (OwnB w4 w.heap.size v4 (strCells key ++ [.int .u8 91] ++ Lib.byteCells (Lib.decDigits u))) := o4
  clear o4 b4 B4 HB3 O3 e3
  go_wp2_with (at_builtin; refine wpList_append_B _ rfl (.tmp 44) (.tmp 45) 37 rfl w.heap.size 5 i0 Ybad.underlying37 hi hz0 hz1 hz2 v4 _ rfl (O4.out.alloc _) ⟨w4.heap.size, 0, none⟩ 1 1 [.int .u8 93] rfl rfl ?q1 ?q2 ?q3 ?q4 ?_; (case q1 => intro j u' hj; match j, hj with | 0, hj => simp at hj; subst hj; simp [Addr.add]); (case q2 => intro u' hu'; simp at hu'; subst hu'; rfl); (case q3 => simp [hsl, Lib.byteCells_length]; omega); (case q4 => simp; omega); intro v5 w5 o5 g5; refine Hid.out ?_)
  refine Lib.hid ?_
  have B5 : Below w.heap.size w w5 := (HB4.out.alloc z4 _).trans ((O4.out.alloc _).below g5 (by simp; omega))
  have HB5 : Hid (Below w.heap.size w w5) := B5
  have eL : strCells key ++ [Value.int .u8 91] ++ Lib.byteCells (Lib.decDigits u) ++ [Value.int .u8 93] = Lib.byteCells (key.data.toList ++ 91 :: Lib.decDigits u ++ [93]) := by simp [Lib.byteCells, strCells]
  rw [eL] at o5
  obtain ⟨l, hl⟩ : ∃ l, l = key.data.toList ++ 91 :: Lib.decDigits u ++ [93] := ⟨_, rfl⟩
  rw [← hl] at o5
  have HL : Hid (l = key.data.toList ++ 91 :: Lib.decDigits u ++ [93]) := hl
  obtain ⟨g5', c5, rfl, -, hc5⟩ := o5.cells
  rw [Lib.byteCells_length]
  have hcv := run_convert_bytes_back (P := Ybad.prog) w5 37 9 5 ⟨g5', 0, none⟩ c5 l Ybad.underlying37 Ybad.underlying5 Ybad.underlying9 (fun j hj => by rw [Lib.add_plain, Nat.zero_add]; exact hc5 j _ (by simp [Lib.byteCells, hj]))
  clear hl eL o5 hc5 g5 B5 HB4 O4
  go_wp2_with fail
  rw [rounds_succ]
  go_wp2
  go_ret
  exact ⟨by rw [pth, ← HL.out]; rfl, HB5.out⟩

set_option maxHeartbeats 1600000 in
set_option maxRecDepth 100000 in
theorem path_neg (key : ByteArray) (i : Int) (hi : i < 0) (w : World) :
    Calls Ybad.prog 4 #[.agg #[.string ⟨#[]⟩, .nilFunc, .nilFunc, .nilFunc, .string key], .int .i64 i] w fun e w' => e = .returned (.string key) ∧ Below w.heap.size w w' := by
  have hd : decide (i < 0) = true := by simpa using hi
  go_enter Ybad.func4, Ybad.ntmps4
  go_wp2
  go_ret
  exact ⟨rfl, (Below.refl _ w).alloc (Nat.le_refl _) _⟩
set_option maxHeartbeats 1600000 in
set_option maxRecDepth 100000 in
theorem path_pos (key : ByteArray) (u : Nat) (hk : key.size ≤ 1048576) (hu : u ≤ 9223372036854775807) (w : World)
    (htab : Lib.TabIs Ybad.prog w "internal/strconv.uint64pow10" .u64 Lib.pow10Tab) :
    Calls Ybad.prog 4 #[.agg #[.string ⟨#[]⟩, .nilFunc, .nilFunc, .nilFunc, .string key], .int .i64 u] w fun e w' => e = .returned (.string (pth key u)) ∧ Below w.heap.size w w' := by
  have hd : decide ((u : Int) < 0) = false := by simp
  go_enter Ybad.func4, Ybad.ntmps4
  have hc : ∀ j, j < 4 → ((w.alloc (.cells #[.string ⟨#[]⟩, .nilFunc, .nilFunc, .nilFunc, .string key] 28)).alloc (.cells #[.string key, .int .i64 (-1), .string ⟨#[]⟩, .int .i64 u] 33)).cell? ⟨w.heap.size + 1, j, none⟩ = (#[Value.string key, .int .i64 (-1), .string ⟨#[]⟩, .int .i64 u] : Array Value)[j]? := by
    intro j hj
    rw [cell_of_row _ _ _ _ _ _ (heap_alloc2_new w _ _)]
  have hB : Below w.heap.size w ((w.alloc (.cells #[.string ⟨#[]⟩, .nilFunc, .nilFunc, .nilFunc, .string key] 28)).alloc (.cells #[.string key, .int .i64 (-1), .string ⟨#[]⟩, .int .i64 u] 33)) := ((Below.refl _ w).alloc (Nat.le_refl _) _).alloc (by simp) _
  go_wp2_with (go_at_call 6; refine (pathString2 (w.heap.size + 1) u key hk hu _ ?q0 ?q1 ?q2 ?q3 ?q4).mono ?_; (case q0 => exact hc 0 (by omega)); (case q1 => exact hc 1 (by omega)); (case q2 => exact hc 2 (by omega)); (case q3 => exact hc 3 (by omega)); (case q4 => exact Lib.tabIs_alloc (Lib.tabIs_alloc htab _) _); rintro e w1 ⟨rfl, b1⟩)
  go_ret
  exact ⟨rfl, hB.trans ⟨b1.os, b1.tape, b1.output, b1.size, fun k hk => b1.block k (by simp; omega)⟩⟩
end Go.Proofs.YbulkegooDoor
