import Derived.Test.YbulkegkgGreatN
namespace Go.Proofs.YbulkegkgGreat
open Go.RowKit

set_option maxHeartbeats 1000000 in
set_option maxRecDepth 100000 in
theorem bs28_none (q : K) (w : World) : Calls Ybaz.prog 28 #[.slice none 0 0, kv q, .func (.func 29) #[] #[]] w fun e w' => e = .returned (.tuple #[.int .i64 0, .bool false]) ∧ Turn (fun _ => False) w w' := by
  obtain ⟨q1, q2⟩ := q
  unfold kv
  go_enter Ybaz.func28, Ybaz.ntmps28
  go_upto_block 0 with fail
  have t1 : Turn (fun _ => False) w (w.alloc (.cells #[.string q1, .string q2] 28)) := (Turn.refl _ _).alloc _
  generalize w.alloc (.cells #[.string q1, .string q2] 28) = w1 at t1 ⊢
  go_wp2_with fail
  refine wp_loop_rounds 1 ?_
  rw [rounds_succ]
  go_upto_region 8 with fail
  go_quiet (fail)
  go_wp2
  go_ret2
  exact ⟨rfl, t1.drewN _⟩

set_option maxHeartbeats 1000000 in
set_option maxRecDepth 100000 in
theorem chunkOf_none (O : Nat) (q : K) (w : World) (ho : w.cell? ⟨O, 0, none⟩ = some (.slice none 0 0)) :
    Calls Ybaz.prog 14 #[.pointer (some ⟨O, 0, none⟩), kv q] w fun e w' => e = .returned (.int .i64 0) ∧ Turn (fun _ => False) w w' := by
  have hbs := fun W => bs28_none q W
  obtain ⟨q1, q2⟩ := q
  have hkv : Hid (kv (q1, q2) = .agg #[.string q1, .string q2]) := rfl
  rw [hkv.out] at hbs ⊢
  go_enter Ybaz.func14, Ybaz.ntmps14
  go_upto_region 1 with fail
  have t1 : Turn (fun _ => False) w (w.alloc (.cells #[.string q1, .string q2] 28)) := (Turn.refl _ _).alloc _
  have y0 := t1.cell ho (fun x => x)
  have z0 : (w.alloc (.cells #[.string q1, .string q2] 28)).cell? ⟨w.heap.size, 0, none⟩ = some (.string q1) := by rw [cell_of_row _ _ _ _ _ _ (heap_alloc_new w _)]; rfl
  have z1 : (w.alloc (.cells #[.string q1, .string q2] 28)).cell? ⟨w.heap.size, 1, none⟩ = some (.string q2) := by rw [cell_of_row _ _ _ _ _ _ (heap_alloc_new w _)]; rfl
  generalize w.alloc (.cells #[.string q1, .string q2] 28) = w1 at t1 y0 z0 z1 ⊢
  go_region_held3 (fun w' => Turn (fun _ => False) w1 w' ∧ w'.cell? ⟨O, 0, none⟩ = some (.slice none 0 0) ∧ w'.cell? ⟨w.heap.size, 0, none⟩ = some (.string q1) ∧ w'.cell? ⟨w.heap.size, 1, none⟩ = some (.string q2)) (first | exact ⟨(Turn.refl _ _).drew, y0, z0, z1⟩ | exact ⟨(Turn.refl _ _).drew.trans t2 (fun _ _ x => x), t2.cell y0 (fun x => x), t2.cell z0 (fun x => x), t2.cell z1 (fun x => x)⟩ | go_keep) (first | (go_at_call 28; refine (hbs _).mono ?_; rintro e w' ⟨rfl, t2⟩))
  all_goals (go_wp2; go_ret)
  all_goals exact ⟨rfl, t1.drew.trans t2 (fun _ _ x => x)⟩

set_option maxHeartbeats 1000000 in
set_option maxRecDepth 100000 in
theorem countIn_none (w : World) : Calls Ybaz.prog 11 #[.slice none 0 0] w fun e w' => e = .returned (.int .i64 0) ∧ w' = w := by
  go_enter Ybaz.func11, Ybaz.ntmps11
  go_wp2
  refine wp_loop_rounds 1 ?_
  rw [rounds_succ]
  go_wp2
  go_ret
  exact ⟨rfl, rfl⟩

set_option maxHeartbeats 1000000 in
set_option maxRecDepth 100000 in
theorem find_none (O : Nat) (q : K) (w : World) (ho : w.cell? ⟨O, 0, none⟩ = some (.slice none 0 0)) :
    Calls Ybaz.prog 10 #[.pointer (some ⟨O, 0, none⟩), kv q] w fun e w' => e = .returned (.tuple #[.int .i64 0, .int .i64 0, .bool false]) ∧ Turn (fun _ => False) w w' := by
  have hco := fun W (t : Turn (fun _ => False) w W) => chunkOf_none O q W (t.cell ho (fun x => x))
  obtain ⟨q1, q2⟩ := q
  have hkv : Hid (kv (q1, q2) = .agg #[.string q1, .string q2]) := rfl
  rw [hkv.out] at hco ⊢
  go_enter Ybaz.func10, Ybaz.ntmps10
  go_upto_region 1 with fail
  have t1 : Turn (fun _ => False) w (w.alloc (.cells #[.string q1, .string q2] 28)) := (Turn.refl _ _).alloc _
  have z0 : (w.alloc (.cells #[.string q1, .string q2] 28)).cell? ⟨w.heap.size, 0, none⟩ = some (.string q1) := by rw [cell_of_row _ _ _ _ _ _ (heap_alloc_new w _)]; rfl
  have z1 : (w.alloc (.cells #[.string q1, .string q2] 28)).cell? ⟨w.heap.size, 1, none⟩ = some (.string q2) := by rw [cell_of_row _ _ _ _ _ _ (heap_alloc_new w _)]; rfl
  generalize w.alloc (.cells #[.string q1, .string q2] 28) = w1 at t1 z0 z1 ⊢
  go_upto_region 2 with (go_at_call 14; refine (hco _ t1).mono ?_; rintro e w2 ⟨rfl, t2⟩)
  have T2 : Turn (fun _ => False) w w2 := t1.trans t2 (fun _ _ x => x)
  have y0 := T2.cell ho (fun x => x)
  go_wp2
  go_ret3
  exact ⟨rfl, T2⟩

set_option maxHeartbeats 1000000 in
set_option maxRecDepth 100000 in
theorem before_none (O : Nat) (q : K) (w : World) (ho : w.cell? ⟨O, 0, none⟩ = some (.slice none 0 0)) :
    Calls Ybaz.prog 4 #[.pointer (some ⟨O, 0, none⟩), kv q] w fun e w' => e = .returned (.int .i64 0) ∧ Turn (fun _ => False) w w' := by
  have hf := fun W (t : Turn (fun _ => False) w W) => find_none O q W (t.cell ho (fun x => x))
  obtain ⟨q1, q2⟩ := q
  have hkv : Hid (kv (q1, q2) = .agg #[.string q1, .string q2]) := rfl
  rw [hkv.out] at hf ⊢
  go_enter Ybaz.func4, Ybaz.ntmps4
  go_upto_region 3 with fail
  have t1 : Turn (fun _ => False) w (w.alloc (.cells #[.string q1, .string q2] 28)) := (Turn.refl _ _).alloc _
  have z0 : (w.alloc (.cells #[.string q1, .string q2] 28)).cell? ⟨w.heap.size, 0, none⟩ = some (.string q1) := by rw [cell_of_row _ _ _ _ _ _ (heap_alloc_new w _)]; rfl
  have z1 : (w.alloc (.cells #[.string q1, .string q2] 28)).cell? ⟨w.heap.size, 1, none⟩ = some (.string q2) := by rw [cell_of_row _ _ _ _ _ _ (heap_alloc_new w _)]; rfl
  generalize w.alloc (.cells #[.string q1, .string q2] 28) = w1 at t1 z0 z1 ⊢
  go_upto_region 4 with (go_at_call 10; refine (hf _ t1).mono ?_; rintro e w2 ⟨rfl, t2⟩)
  have T2 : Turn (fun _ => False) w w2 := t1.trans t2 (fun _ _ x => x)
  have y0 := T2.cell ho (fun x => x)
  go_wp2_with (go_at_call 11; refine (countIn_none _).mono ?_; rintro e w3 ⟨rfl, rfl⟩)
  go_ret
  exact ⟨rfl, T2⟩
end Go.Proofs.YbulkegkgGreat
