import Derived.Test.YbulkegkgGreatO
namespace Go.Proofs.YbulkegkgGreat
open Go.RowKit
theorem info36 : (Ybaz.prog.info? 36).map (fun i => (i.zero, i.size, i.bytes)) = some (some (.pointer none), 1, 8) := by kernel_rfl
theorem info58 : (Ybaz.prog.info? 58).map (fun i => (i.zero, i.size, i.bytes)) = some (some (.pointer none), 1, 8) := by kernel_rfl

set_option maxHeartbeats 400000 in
/-- slices.Clone at []pointers. -/
theorem clone58 (g n cap : Nat) (f : Nat → Value) (w : World) (h : SlI w 58 g n cap f) (h1 : ∀ j, j < n → (f j).oneCell' = true) (hn : n ≤ 1000000) :
    Calls Ybaz.prog 7 #[.slice (some ⟨g, 0, none⟩) n cap] w fun e w' => ∃ g' cap', e = .returned (.slice (some ⟨g', 0, none⟩) n cap') ∧ SlI w' 58 g' n cap' f ∧ Turn (fun _ => False) w w' ∧ w.heap.size ≤ g' := by
  obtain ⟨i0, i1, i2, i3, i4⟩ := info_parts info58
  have n22 := fun wx => Lib.run_eql_slice_nil (P := Ybaz.prog) wx 34 58 (some ⟨g, 0, none⟩) n cap 0 0 Ybaz.underlying34
  have HN : Hid (∀ j, j < n → (w.alloc (.cells #[] 58)).cell? ⟨g, 0 + j, none⟩ = some (f j)) := fun j hj => by
    rw [Nat.zero_add]; exact ((Turn.refl (fun _ => False) w).alloc _).cell (h.cell hj) (fun x => x)
  have HS : Hid (SlI (w.alloc (.cells #[] 58)) 58 w.heap.size 0 0 (fun _ => .int .i64 0)) := ⟨Nat.le_refl _, by unfold maxLen; omega, #[], heap_alloc_new w _, rfl, fun i hi => absurd hi (by omega)⟩
  have hm : 0 + n ≤ maxLen := by unfold maxLen; omega
  clear h
  go_enter Ybaz.func7, Ybaz.ntmps7
  go_wp2_with (at_builtin; refine wpList_append_sl _ rfl (.tmp 5) (.tmp 6) 34 rfl 58 i0 (.pointer none) 8 Ybaz.underlying34 i1 i2 i3 i4 rfl w.heap.size 0 0 (fun _ => .int .i64 0) rfl HS.out g 0 n cap f rfl HN.out h1 hm (by omega) (w.heap.size + 1) (by simp) ?_; intro g' cap' w' hs ht hg)
  go_ret
  refine ⟨g', cap', by simp, by simpa using hs, ?_, by omega⟩
  exact ((Turn.refl (fun _ => False) w).alloc _).trans ht (fun i hi e => by omega)

set_option maxHeartbeats 400000 in
/-- slices.Clone at []pointers. -/
theorem clone36 (g n cap : Nat) (f : Nat → Value) (w : World) (h : SlI w 36 g n cap f) (h1 : ∀ j, j < n → (f j).oneCell' = true) (hn : n ≤ 1000000) :
    Calls Ybaz.prog 8 #[.slice (some ⟨g, 0, none⟩) n cap] w fun e w' => ∃ g' cap', e = .returned (.slice (some ⟨g', 0, none⟩) n cap') ∧ SlI w' 36 g' n cap' f ∧ Turn (fun _ => False) w w' ∧ w.heap.size ≤ g' := by
  obtain ⟨i0, i1, i2, i3, i4⟩ := info_parts info36
  have n22 := fun wx => Lib.run_eql_slice_nil (P := Ybaz.prog) wx 35 36 (some ⟨g, 0, none⟩) n cap 0 0 Ybaz.underlying35
  have HN : Hid (∀ j, j < n → (w.alloc (.cells #[] 36)).cell? ⟨g, 0 + j, none⟩ = some (f j)) := fun j hj => by
    rw [Nat.zero_add]; exact ((Turn.refl (fun _ => False) w).alloc _).cell (h.cell hj) (fun x => x)
  have HS : Hid (SlI (w.alloc (.cells #[] 36)) 36 w.heap.size 0 0 (fun _ => .int .i64 0)) := ⟨Nat.le_refl _, by unfold maxLen; omega, #[], heap_alloc_new w _, rfl, fun i hi => absurd hi (by omega)⟩
  have hm : 0 + n ≤ maxLen := by unfold maxLen; omega
  clear h
  go_enter Ybaz.func8, Ybaz.ntmps8
  go_wp2_with (at_builtin; refine wpList_append_sl _ rfl (.tmp 5) (.tmp 6) 35 rfl 36 i0 (.pointer none) 8 Ybaz.underlying35 i1 i2 i3 i4 rfl w.heap.size 0 0 (fun _ => .int .i64 0) rfl HS.out g 0 n cap f rfl HN.out h1 hm (by omega) (w.heap.size + 1) (by simp) ?_; intro g' cap' w' hs ht hg)
  go_ret
  refine ⟨g', cap', by simp, by simpa using hs, ?_, by omega⟩
  exact ((Turn.refl (fun _ => False) w).alloc _).trans ht (fun i hi e => by omega)
end Go.Proofs.YbulkegkgGreat
