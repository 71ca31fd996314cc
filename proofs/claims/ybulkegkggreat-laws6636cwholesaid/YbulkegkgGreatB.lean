import Derived.Test.YbulkegkgGreatK
namespace Go.Proofs.YbulkegkgGreat
open Go.RowKit

set_option maxHeartbeats 1000000 in
set_option maxRecDepth 100000 in
/-- chunkOf's comparison, at a chunk whose last is k. -/
theorem cl29 (c : Nat) (k q : K) (w : World) (x0 : w.cell? ⟨c, 2, none⟩ = some (.string k.1)) (x1 : w.cell? ⟨c, 3, none⟩ = some (.string k.2)) :
    Calls Ybaz.prog 29 #[.pointer (some ⟨c, 0, none⟩), kv q] w fun e w' => e = .returned (.int .i64 (kcmp k q)) ∧ Turn (fun _ => False) w w' := by
  have hcmp := fun W => compareKeys_any k q W
  unfold kv at hcmp ⊢
  generalize kcmp k q = r at hcmp ⊢
  obtain ⟨k1, k2⟩ := k
  obtain ⟨q1, q2⟩ := q
  go_enter Ybaz.func29, Ybaz.ntmps29
  go_upto_region 1 with fail
  have t1 : Turn (fun _ => False) w (w.alloc (.cells #[.string q1, .string q2] 28)) := (Turn.refl _ _).alloc _
  have y0 := t1.cell x0 (fun x => x)
  have y1 := t1.cell x1 (fun x => x)
  have z0 : (w.alloc (.cells #[.string q1, .string q2] 28)).cell? ⟨w.heap.size, 0, none⟩ = some (.string q1) := by rw [cell_of_row _ _ _ _ _ _ (heap_alloc_new w _)]; rfl
  have z1 : (w.alloc (.cells #[.string q1, .string q2] 28)).cell? ⟨w.heap.size, 1, none⟩ = some (.string q2) := by rw [cell_of_row _ _ _ _ _ _ (heap_alloc_new w _)]; rfl
  generalize w.alloc (.cells #[.string q1, .string q2] 28) = w1 at t1 y0 y1 z0 z1 ⊢
  clear x0 x1
  go_region_with (go_at_call 17; refine (hcmp _).mono ?_; rintro e w' ⟨rfl, t2⟩)
  all_goals (go_wp2; go_ret; exact ⟨rfl, t1.drew.trans t2 (fun _ _ x => x)⟩)
set_option maxHeartbeats 1000000 in
set_option maxRecDepth 100000 in
/-- find's comparison, at a record whose key is k. -/
theorem cl16 (c : Nat) (k q : K) (w : World) (x0 : w.cell? ⟨c, 6, none⟩ = some (.string k.1)) (x1 : w.cell? ⟨c, 7, none⟩ = some (.string k.2)) :
    Calls Ybaz.prog 16 #[.pointer (some ⟨c, 0, none⟩), kv q] w fun e w' => e = .returned (.int .i64 (kcmp k q)) ∧ Turn (fun _ => False) w w' := by
  have hcmp := fun W => compareKeys_any k q W
  unfold kv at hcmp ⊢
  generalize kcmp k q = r at hcmp ⊢
  obtain ⟨k1, k2⟩ := k
  obtain ⟨q1, q2⟩ := q
  go_enter Ybaz.func16, Ybaz.ntmps16
  go_upto_region 1 with fail
  have t1 : Turn (fun _ => False) w (w.alloc (.cells #[.string q1, .string q2] 28)) := (Turn.refl _ _).alloc _
  have y0 := t1.cell x0 (fun x => x)
  have y1 := t1.cell x1 (fun x => x)
  have z0 : (w.alloc (.cells #[.string q1, .string q2] 28)).cell? ⟨w.heap.size, 0, none⟩ = some (.string q1) := by rw [cell_of_row _ _ _ _ _ _ (heap_alloc_new w _)]; rfl
  have z1 : (w.alloc (.cells #[.string q1, .string q2] 28)).cell? ⟨w.heap.size, 1, none⟩ = some (.string q2) := by rw [cell_of_row _ _ _ _ _ _ (heap_alloc_new w _)]; rfl
  generalize w.alloc (.cells #[.string q1, .string q2] 28) = w1 at t1 y0 y1 z0 z1 ⊢
  clear x0 x1
  go_region_with (go_at_call 17; refine (hcmp _).mono ?_; rintro e w' ⟨rfl, t2⟩)
  all_goals (go_wp2; go_ret; exact ⟨rfl, t1.drew.trans t2 (fun _ _ x => x)⟩)
end Go.Proofs.YbulkegkgGreat
