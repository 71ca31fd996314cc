import Derived.Test.YbulkegkgGreatE
namespace Go.Proofs.YbulkegkgGreat
open Go.RowKit

set_option maxHeartbeats 1000000 in
set_option maxRecDepth 100000 in
theorem clone58_none (w : World) : Calls Ybaz.prog 7 #[.slice none 0 0] w fun e w' => e = .returned (.slice none 0 0) ∧ Turn (fun _ => False) w w' := by
  have n34 := fun wx => Lib.run_eql_slice_nil (P := Ybaz.prog) wx 34 58 none 0 0 0 0 Ybaz.underlying34
  go_enter Ybaz.func7, Ybaz.ntmps7
  go_wp2
  go_ret
  exact ⟨rfl, Turn.refl _ _⟩
theorem make0_29 (w : World) : (Instr.makeSlice 29 (.int .i64 0) (.int .i64 0)).run Ybaz.prog w = .ok (.slice (some ⟨w.heap.size, 0, none⟩) 0 0) (w.alloc (.cells #[] 28)) := by kernel_rfl
theorem make0_66 (w : World) : (Instr.makeSlice 66 (.int .i64 0) (.int .i64 0)).run Ybaz.prog w = .ok (.slice (some ⟨w.heap.size, 0, none⟩) 0 0) (w.alloc (.cells #[] 35)) := by kernel_rfl

set_option maxHeartbeats 4000000 in
set_option maxRecDepth 100000 in
/-- The law at no keys. -/
theorem law_empty (a0 : Option Addr) (cap0 : Nat) (a1 : Option Addr) (m1 cap1 : Nat) (qn qm : ByteArray) (mode pick : Int) (w : World) (hm1 : m1 ≤ 65536) :
    Calls Ybaz.prog 3 #[.slice a0 0 cap0, .slice a1 m1 cap1, .string qn, .string qm, .int .u8 mode, .int .u16 pick, .bool false] w fun e w' => e = .returned (.bool true) ∧ Below w.heap.size w w' := by
  have hd1 : decide ((65536 : Int) < (m1 : Int)) = false := by simp; omega
  have hmk := make0_29
  have hmk2 := make0_66
  go_enter Ybaz.func3, Ybaz.ntmps3
  go_upto_block 0 with fail
  have t1 : Turn (fun _ => False) w (w.alloc (.cells #[] 28)) := (Turn.refl _ _).alloc _
  have r1 : Hid ((w.alloc (.cells #[] 28)).rowIs w.heap.size 28 (0 * 2) (kF fun _ => (⟨#[]⟩, ⟨#[]⟩))) := row_of_block (heap_alloc_new w _) _ (fun i hi => absurd hi (by simp))
  generalize w.alloc (.cells #[] 28) = wa at t1 r1 ⊢
  go_wp2_with fail
  refine wp_loop_rounds 1 ?_
  rw [rounds_succ]
  go_upto_region 13 with (go_at_call 5; refine (sort_any w.heap.size 0 0 _ _ r1.out (by omega)).mono ?_; rintro e wb ⟨rfl, ks, rs, ts, ss, ms⟩)
  have t2 : Turn (fun _ => False) w wb := t1.trans ts (fun i hi e => by omega)
  clear rs ts ss ms t1 r1
  go_upto_block 2 with fail
  have t3 : Turn (fun _ => False) w (wb.alloc (.cells #[.string qn, .string qm] 28)) := t2.alloc _
  have z0 : (wb.alloc (.cells #[.string qn, .string qm] 28)).cell? ⟨wb.heap.size, 0, none⟩ = some (.string qn) := by rw [cell_of_row _ _ _ _ _ _ (heap_alloc_new wb _)]; rfl
  have z1 : (wb.alloc (.cells #[.string qn, .string qm] 28)).cell? ⟨wb.heap.size, 1, none⟩ = some (.string qm) := by rw [cell_of_row _ _ _ _ _ _ (heap_alloc_new wb _)]; rfl
  generalize wb.alloc (.cells #[.string qn, .string qm] 28) = wd at t3 z0 z1 ⊢
  go_wp2_with fail
  refine wp_loop_rounds 1 ?_
  rw [rounds_succ]
  go_upto_region 41 with fail
  have t4 : Turn (fun _ => False) wd (wd.alloc (.cells #[.slice none 0 0, .int .u64 1, .string ⟨#[]⟩, .string ⟨#[]⟩, .int .i64 0, .int .i64 0, .int .u64 0, .bool false, .string ⟨#[]⟩, .string ⟨#[]⟩, .int .i64 0, .int .i64 0, .int .u64 0, .bool false, .int .u64 0] 64)) := (Turn.refl _ _).alloc _
  have KB0 : (wd.alloc (.cells #[.slice none 0 0, .int .u64 1, .string ⟨#[]⟩, .string ⟨#[]⟩, .int .i64 0, .int .i64 0, .int .u64 0, .bool false, .string ⟨#[]⟩, .string ⟨#[]⟩, .int .i64 0, .int .i64 0, .int .u64 0, .bool false, .int .u64 0] 64)).heap[wd.heap.size]? = some (.cells #[.slice none 0 0, .int .u64 1, .string ⟨#[]⟩, .string ⟨#[]⟩, .int .i64 0, .int .i64 0, .int .u64 0, .bool false, .string ⟨#[]⟩, .string ⟨#[]⟩, .int .i64 0, .int .i64 0, .int .u64 0, .bool false, .int .u64 0] 64) := heap_alloc_new wd _
  have z0' := t4.cell z0 (fun x => x)
  have z1' := t4.cell z1 (fun x => x)
  have T4 : Turn (fun _ => False) w (wd.alloc (.cells #[.slice none 0 0, .int .u64 1, .string ⟨#[]⟩, .string ⟨#[]⟩, .int .i64 0, .int .i64 0, .int .u64 0, .bool false, .string ⟨#[]⟩, .string ⟨#[]⟩, .int .i64 0, .int .i64 0, .int .u64 0, .bool false, .int .u64 0] 64)) := t3.trans t4 (fun _ _ x => x)
  generalize wd.alloc (.cells #[.slice none 0 0, .int .u64 1, .string ⟨#[]⟩, .string ⟨#[]⟩, .int .i64 0, .int .i64 0, .int .u64 0, .bool false, .string ⟨#[]⟩, .string ⟨#[]⟩, .int .i64 0, .int .i64 0, .int .u64 0, .bool false, .int .u64 0] 64) = we at KB0 z0' z1' T4 ⊢
  clear t4 t3 t2 z0 z1
  go_upto_block 6 with (go_at_call 7; refine (clone58_none _).mono ?_; rintro e wi ⟨rfl, tD⟩)
  have t5 : Turn (fun _ => False) we ((wi.alloc (.cells #[] 35)).alloc (.cells #[] 28)) := (tD.alloc _).alloc _
  generalize (wi.alloc (.cells #[] 35)).alloc (.cells #[] 28) = wj at t5 ⊢
  go_wp2_with fail
  refine wp_loop_rounds 1 ?_
  rw [rounds_succ]
  have KB1 : wj.heap[wd.heap.size]? = some (.cells #[.slice none 0 0, .int .u64 1, .string ⟨#[]⟩, .string ⟨#[]⟩, .int .i64 0, .int .i64 0, .int .u64 0, .bool false, .string ⟨#[]⟩, .string ⟨#[]⟩, .int .i64 0, .int .i64 0, .int .u64 0, .bool false, .int .u64 0] 64) := (t5.block _ (Array.getElem?_eq_some_iff.1 KB0).1 (fun x => x)).trans KB0
  have y0 := t5.cell z0' (fun x => x)
  have y1 := t5.cell z1' (fun x => x)
  have ho : wj.cell? ⟨wd.heap.size, 0, none⟩ = some (.slice none 0 0) := by rw [cell_of_row _ _ _ _ _ _ KB1]; rfl
  have hbef := before_none wd.heap.size (qn, qm) wj ho
  have hkv : Hid (kv (qn, qm) = .agg #[.string qn, .string qm]) := rfl
  rw [hkv.out] at hbef
  go_upto_block 8 with (go_at_call 4; refine hbef.mono ?_; rintro e wl ⟨rfl, tN⟩)
  have KB : wl.heap[wd.heap.size]? = some (.cells #[.slice none 0 0, .int .u64 1, .string ⟨#[]⟩, .string ⟨#[]⟩, .int .i64 0, .int .i64 0, .int .u64 0, .bool false, .string ⟨#[]⟩, .string ⟨#[]⟩, .int .i64 0, .int .i64 0, .int .u64 0, .bool false, .int .u64 0] 64) := (tN.block _ (Array.getElem?_eq_some_iff.1 KB1).1 (fun x => x)).trans KB1
  have TF : Turn (fun _ => False) w wl := (T4.trans t5 (fun _ _ x => x)).trans tN (fun _ _ x => x)
  have o0 : wl.cell? ⟨wd.heap.size, 0, none⟩ = some (.slice none 0 0) := by rw [cell_of_row _ _ _ _ _ _ KB]; rfl
  have o1 : wl.cell? ⟨wd.heap.size, 1, none⟩ = some (.int .u64 1) := by rw [cell_of_row _ _ _ _ _ _ KB]; rfl
  have o2 : wl.cell? ⟨wd.heap.size, 2, none⟩ = some (.string ⟨#[]⟩) := by rw [cell_of_row _ _ _ _ _ _ KB]; rfl
  have o3 : wl.cell? ⟨wd.heap.size, 3, none⟩ = some (.string ⟨#[]⟩) := by rw [cell_of_row _ _ _ _ _ _ KB]; rfl
  have o4 : wl.cell? ⟨wd.heap.size, 4, none⟩ = some (.int .i64 0) := by rw [cell_of_row _ _ _ _ _ _ KB]; rfl
  have o5 : wl.cell? ⟨wd.heap.size, 5, none⟩ = some (.int .i64 0) := by rw [cell_of_row _ _ _ _ _ _ KB]; rfl
  have o6 : wl.cell? ⟨wd.heap.size, 6, none⟩ = some (.int .u64 0) := by rw [cell_of_row _ _ _ _ _ _ KB]; rfl
  have o7 : wl.cell? ⟨wd.heap.size, 7, none⟩ = some (.bool false) := by rw [cell_of_row _ _ _ _ _ _ KB]; rfl
  have o8 : wl.cell? ⟨wd.heap.size, 8, none⟩ = some (.string ⟨#[]⟩) := by rw [cell_of_row _ _ _ _ _ _ KB]; rfl
  have o9 : wl.cell? ⟨wd.heap.size, 9, none⟩ = some (.string ⟨#[]⟩) := by rw [cell_of_row _ _ _ _ _ _ KB]; rfl
  have o10 : wl.cell? ⟨wd.heap.size, 10, none⟩ = some (.int .i64 0) := by rw [cell_of_row _ _ _ _ _ _ KB]; rfl
  have o11 : wl.cell? ⟨wd.heap.size, 11, none⟩ = some (.int .i64 0) := by rw [cell_of_row _ _ _ _ _ _ KB]; rfl
  have o12 : wl.cell? ⟨wd.heap.size, 12, none⟩ = some (.int .u64 0) := by rw [cell_of_row _ _ _ _ _ _ KB]; rfl
  have o13 : wl.cell? ⟨wd.heap.size, 13, none⟩ = some (.bool false) := by rw [cell_of_row _ _ _ _ _ _ KB]; rfl
  have o14 : wl.cell? ⟨wd.heap.size, 14, none⟩ = some (.int .u64 0) := by rw [cell_of_row _ _ _ _ _ _ KB]; rfl
  clear KB KB1 KB0 y0 y1 z0' z1' T4 t5 tN ho hbef
  go_wp2_with fail
  refine wp_loop_rounds 1 ?_
  rw [rounds_succ]
  go_upto_block 10 with fail
  go_wp2_with fail
  refine wp_loop_rounds 1 ?_
  rw [rounds_succ]
  go_wp2
  go_ret
  exact ⟨rfl, TF.below (Nat.le_refl _) (fun _ h => h.elim)⟩
end Go.Proofs.YbulkegkgGreat
