import Derived.Test.YbulkegooDoorPath
import Derived.Test.YbulkegooDoorDec
namespace Go.Proofs.YbulkegooDoor
open Go.RowKit Go.Lib

theorem adec_any (u : Nat) (hu : u ≤ 9223372036854775807) (w : World) : Calls Ybad.prog 5 #[.int .i64 u] w fun e w' => e = .returned (.string (dec u)) ∧ Below w.heap.size w w' := by
  by_cases h0 : u = 0
  · subst h0
    exact (adec0 w).mono fun e w' ⟨h1, h2⟩ => ⟨h1, h2 ▸ Below.refl _ _⟩
  · exact adec u (by omega) hu w
theorem below_at {B : Nat} {w w' : World} (h : Below w.heap.size w w') (hB : B ≤ w.heap.size) : Below B w w' := ⟨h.os, h.tape, h.output, h.size, fun k hk => h.block k (by omega)⟩
theorem below_tab {w w' : World} {n : String} {k : IntKind} {zs : List Int} (h : Lib.TabIs Ybad.prog w n k zs) (hb : Below w.heap.size w w') : Lib.TabIs Ybad.prog w' n k zs := Lib.tabBelow_of_tabIs h w' hb

set_option maxHeartbeats 6400000 in
set_option maxRecDepth 100000 in
theorem lawA_neg (key : ByteArray) (i : Int) (hk : key.size ≤ 1048576) (h0 : i < 0) (w : World) :
    Calls Ybad.prog 3 #[.string key, .int .i64 i] w fun e w' => e = .returned (.bool true) ∧ Below w.heap.size w w' := by
  have hd : decide ((1048576 : Int) < (key.size : Int)) = false := by simp; omega
  have hn : decide (i < 0) = true := by simpa using h0
  go_enter Ybad.func3, Ybad.ntmps3
  have b1 : Below w.heap.size w (w.alloc (.cells #[.string ⟨#[]⟩, .nilFunc, .nilFunc, .nilFunc, .string key] 28)) := (Below.refl _ w).alloc (Nat.le_refl _) _
  have k1 : (w.alloc (.cells #[.string ⟨#[]⟩, .nilFunc, .nilFunc, .nilFunc, .string key] 28)).heap[w.heap.size]? = some (.cells #[.string ⟨#[]⟩, .nilFunc, .nilFunc, .nilFunc, .string key] 28) := heap_alloc_new w _
  go_upto_region 4 with fail
  generalize w.alloc (.cells #[.string ⟨#[]⟩, .nilFunc, .nilFunc, .nilFunc, .string key] 28) = w1 at b1 k1 ⊢
  have lA : w.heap.size < w1.heap.size := (Array.getElem?_eq_some_iff.1 k1).1
  go_upto_region 5 with (first | (refine wpList_load_row rfl 28 (.tmp 5) rfl w.heap.size rfl 28 _ (0, 0) _ k1 Ybad.underlying28 rfl (by kernel_rfl) ?_) | (go_at_call 4; refine (path_neg key i h0 _).mono ?_; rintro e w2 ⟨rfl, b2⟩))
  have B2 : Below w.heap.size w w2 := b1.trans (below_at b2 (by omega))
  have k2 : w2.heap[w.heap.size]? = some (.cells #[.string ⟨#[]⟩, .nilFunc, .nilFunc, .nilFunc, .string key] 28) := (b2.block _ lA).trans k1
  have c2 : w2.cell? ⟨w.heap.size, 4, none⟩ = some (.string key) := by rw [cell_of_row _ _ _ _ _ _ k2]; rfl
  clear k2 k1 b1 b2
  go_wp2
  go_ret
  exact ⟨rfl, B2⟩

theorem pth_eq (key : ByteArray) (u : Nat) : key ++ ⟨#[91]⟩ ++ dec u ++ ⟨#[93]⟩ = pth key u := by
  apply ByteArray.ext
  simp [pth, dec, ByteArray.data_append]

set_option maxHeartbeats 6400000 in
set_option maxRecDepth 100000 in
theorem lawA_pos (key : ByteArray) (u : Nat) (hk : key.size ≤ 1048576) (hu : u ≤ 9223372036854775807) (w : World)
    (htab : Lib.TabIs Ybad.prog w "internal/strconv.uint64pow10" .u64 Lib.pow10Tab) :
    Calls Ybad.prog 3 #[.string key, .int .i64 u] w fun e w' => e = .returned (.bool true) ∧ Below w.heap.size w w' := by
  have hd : decide ((1048576 : Int) < (key.size : Int)) = false := by simp; omega
  have hn : decide ((u : Int) < 0) = false := by simp
  have hdl : (dec u).size ≤ 21 := by have := Lib.itoa_length_le (u : Int) (by omega) (by omega); rw [Lib.itoa_nonneg] at this; simpa [dec, ByteArray.size] using this
  go_enter Ybad.func3, Ybad.ntmps3
  have b1 : Below w.heap.size w (w.alloc (.cells #[.string ⟨#[]⟩, .nilFunc, .nilFunc, .nilFunc, .string key] 28)) := (Below.refl _ w).alloc (Nat.le_refl _) _
  have k1 : (w.alloc (.cells #[.string ⟨#[]⟩, .nilFunc, .nilFunc, .nilFunc, .string key] 28)).heap[w.heap.size]? = some (.cells #[.string ⟨#[]⟩, .nilFunc, .nilFunc, .nilFunc, .string key] 28) := heap_alloc_new w _
  go_upto_region 4 with fail
  generalize w.alloc (.cells #[.string ⟨#[]⟩, .nilFunc, .nilFunc, .nilFunc, .string key] 28) = w1 at b1 k1 ⊢
  have lA : w.heap.size < w1.heap.size := (Array.getElem?_eq_some_iff.1 k1).1
  go_upto_region 5 with (first | (refine wpList_load_row rfl 28 (.tmp 5) rfl w.heap.size rfl 28 _ (0, 0) _ k1 Ybad.underlying28 rfl (by kernel_rfl) ?_) | (go_at_call 4; refine (path_pos key u hk hu _ (below_tab htab b1)).mono ?_; rintro e w2 ⟨rfl, b2⟩))
  have B2 : Below w.heap.size w w2 := b1.trans (below_at b2 (by omega))
  have k2 : w2.heap[w.heap.size]? = some (.cells #[.string ⟨#[]⟩, .nilFunc, .nilFunc, .nilFunc, .string key] 28) := (b2.block _ lA).trans k1
  have z2 := B2.size
  have lA2 : w.heap.size < w2.heap.size := (Array.getElem?_eq_some_iff.1 k2).1
  clear k1 b1 b2
  go_upto_region 9 with (go_at_call 5; refine (adec_any u hu _).mono ?_; rintro e w3 ⟨rfl, b3⟩)
  have B3 : Below w.heap.size w w3 := B2.trans (below_at b3 (by omega))
  have k3 : w3.heap[w.heap.size]? = some (.cells #[.string ⟨#[]⟩, .nilFunc, .nilFunc, .nilFunc, .string key] 28) := (b3.block _ lA2).trans k2
  have c3 : w3.cell? ⟨w.heap.size, 4, none⟩ = some (.string key) := by rw [cell_of_row _ _ _ _ _ _ k3]; rfl
  clear k3 k2 b3 B2
  rw [pth_eq]
  go_wp2
  go_ret
  exact ⟨rfl, B3⟩
end Go.Proofs.YbulkegooDoor
