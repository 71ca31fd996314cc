import Derived.Test.YbulkegooRows
import Derived.Test.YbulkegooSl
import Derived.WalkLawsBesides
namespace Go.Proofs.Ybulkegoo
open Go.RowKit
theorem infoS : (Yba.prog.info? 9).map (fun i => (i.zero, i.size, i.bytes)) = some (some ((.string ⟨#[]⟩)), 1, 16) := by kernel_rfl

set_option maxHeartbeats 400000 in
/-- slices.Clone at []string. -/
theorem cloneS (g n cap : Nat) (f : Nat → Value) (w : World) (h : SlI w 9 g n cap f) (h1 : ∀ j, j < n → (f j).oneCell' = true) (hn : n ≤ 1000000) :
    Calls Yba.prog 7 #[.slice (some ⟨g, 0, none⟩) n cap] w fun e w' => ∃ g' cap', e = .returned (.slice (some ⟨g', 0, none⟩) n cap') ∧ SlI w' 9 g' n cap' f ∧ Turn (fun _ => False) w w' ∧ w.heap.size ≤ g' := by
  obtain ⟨i0, i1, i2, i3, i4⟩ := info_parts infoS
  have n22 := fun wx => Lib.run_eql_slice_nil (P := Yba.prog) wx 22 9 (some ⟨g, 0, none⟩) n cap 0 0 Yba.underlying22
  have HN : Hid (∀ j, j < n → (w.alloc (.cells #[] 9)).cell? ⟨g, 0 + j, none⟩ = some (f j)) := fun j hj => by
    rw [Nat.zero_add]; exact ((Turn.refl (fun _ => False) w).alloc _).cell (h.cell hj) (fun x => x)
  have HS : Hid (SlI (w.alloc (.cells #[] 9)) 9 w.heap.size 0 0 (fun _ => .int .i64 0)) := ⟨Nat.le_refl _, by unfold maxLen; omega, #[], heap_alloc_new w _, rfl, fun i hi => absurd hi (by omega)⟩
  have hm : 0 + n ≤ maxLen := by unfold maxLen; omega
  clear h
  go_enter Yba.func7, Yba.ntmps7
  go_wp2_with (at_builtin; refine wpList_append_sl _ rfl (.tmp 5) (.tmp 6) 22 rfl 9 i0 (.string ⟨#[]⟩) 16 Yba.underlying22 i1 i2 i3 i4 rfl w.heap.size 0 0 (fun _ => .int .i64 0) rfl HS.out g 0 n cap f rfl HN.out h1 hm (by omega) (w.heap.size + 1) (by simp) ?_; intro g' cap' w' hs ht hg)
  go_ret
  refine ⟨g', cap', by simp, by simpa using hs, ?_, by omega⟩
  exact ((Turn.refl (fun _ => False) w).alloc _).trans ht (fun i hi e => by omega)
theorem infoI : (Yba.prog.info? 3).map (fun i => (i.zero, i.size, i.bytes)) = some (some ((.int .i64 0)), 1, 8) := by kernel_rfl

set_option maxHeartbeats 400000 in
/-- slices.Clone at []int. -/
theorem cloneI (g n cap : Nat) (f : Nat → Value) (w : World) (h : SlI w 3 g n cap f) (h1 : ∀ j, j < n → (f j).oneCell' = true) (hn : n ≤ 1000000) :
    Calls Yba.prog 8 #[.slice (some ⟨g, 0, none⟩) n cap] w fun e w' => ∃ g' cap', e = .returned (.slice (some ⟨g', 0, none⟩) n cap') ∧ SlI w' 3 g' n cap' f ∧ Turn (fun _ => False) w w' ∧ w.heap.size ≤ g' := by
  obtain ⟨i0, i1, i2, i3, i4⟩ := info_parts infoI
  have n22 := fun wx => Lib.run_eql_slice_nil (P := Yba.prog) wx 40 3 (some ⟨g, 0, none⟩) n cap 0 0 Yba.underlying40
  have HN : Hid (∀ j, j < n → (w.alloc (.cells #[] 3)).cell? ⟨g, 0 + j, none⟩ = some (f j)) := fun j hj => by
    rw [Nat.zero_add]; exact ((Turn.refl (fun _ => False) w).alloc _).cell (h.cell hj) (fun x => x)
  have HS : Hid (SlI (w.alloc (.cells #[] 3)) 3 w.heap.size 0 0 (fun _ => .int .i64 0)) := ⟨Nat.le_refl _, by unfold maxLen; omega, #[], heap_alloc_new w _, rfl, fun i hi => absurd hi (by omega)⟩
  have hm : 0 + n ≤ maxLen := by unfold maxLen; omega
  clear h
  go_enter Yba.func8, Yba.ntmps8
  go_wp2_with (at_builtin; refine wpList_append_sl _ rfl (.tmp 5) (.tmp 6) 40 rfl 3 i0 (.int .i64 0) 8 Yba.underlying40 i1 i2 i3 i4 rfl w.heap.size 0 0 (fun _ => .int .i64 0) rfl HS.out g 0 n cap f rfl HN.out h1 hm (by omega) (w.heap.size + 1) (by simp) ?_; intro g' cap' w' hs ht hg)
  go_ret
  refine ⟨g', cap', by simp, by simpa using hs, ?_, by omega⟩
  exact ((Turn.refl (fun _ => False) w).alloc _).trans ht (fun i hi e => by omega)

set_option maxHeartbeats 1000000 in
/-- slices.Equal at []string: two slices that hold the same. -/
theorem equalS (g1 c1 g2 c2 n : Nat) (z : Nat → ByteArray) (w : World) (h1 : SlI w 9 g1 n c1 (fun j => .string (z j))) (h2 : SlI w 9 g2 n c2 (fun j => .string (z j))) (hn : n ≤ 1000000) :
    Calls Yba.prog 10 #[.slice (some ⟨g1, 0, none⟩) n c1, .slice (some ⟨g2, 0, none⟩) n c2] w fun e w' => e = .returned (.bool true) ∧ Turn (fun _ => False) w w' := by
  have H1 : Hid (SlI w 9 g1 n c1 (fun j => .string (z j))) := h1
  have H2 : Hid (SlI w 9 g2 n c2 (fun j => .string (z j))) := h2
  clear h1 h2
  go_enter Yba.func10, Yba.ntmps10
  go_wp2
  go_loopg [13] n (fun gk i wr => ∃ m : Nat, m ≤ n ∧ gk = n - m ∧ i = .int .i64 m ∧ Turn (fun _ => False) w wr)
  case atStart => exact ⟨0, by omega, rfl, rfl, Turn.refl _ _⟩
  case round =>
    obtain ⟨m, hmn, hgk, rfl, hT⟩ := hrel
    by_cases hlt : m < n
    · have k1 := (H1.out.turn hT (fun x => x)).cell hlt
      have k2 := (H2.out.turn hT (fun x => x)).cell hlt
      have i0 : (0 : Int) ≤ (m : Int) := by omega
      have i1 : (m : Int) < (n : Int) := by omega
      go_wp2
      go_quiet (fail)
      go_wp2
      go_roundg (n - (m + 1))
      case measure => omega
      case rel => exact ⟨m + 1, by omega, rfl, by go_num, hT.drewN _⟩
    · go_wp2
      go_ret
      exact ⟨rfl, hT⟩

set_option maxHeartbeats 1000000 in
/-- slices.Equal at []int: two slices that hold the same. -/
theorem equalI (g1 c1 g2 c2 n : Nat) (z : Nat → Int) (w : World) (h1 : SlI w 3 g1 n c1 (fun j => .int .i64 (z j))) (h2 : SlI w 3 g2 n c2 (fun j => .int .i64 (z j))) (hn : n ≤ 1000000) :
    Calls Yba.prog 11 #[.slice (some ⟨g1, 0, none⟩) n c1, .slice (some ⟨g2, 0, none⟩) n c2] w fun e w' => e = .returned (.bool true) ∧ Turn (fun _ => False) w w' := by
  have H1 : Hid (SlI w 3 g1 n c1 (fun j => .int .i64 (z j))) := h1
  have H2 : Hid (SlI w 3 g2 n c2 (fun j => .int .i64 (z j))) := h2
  clear h1 h2
  go_enter Yba.func11, Yba.ntmps11
  go_wp2
  go_loopg [13] n (fun gk i wr => ∃ m : Nat, m ≤ n ∧ gk = n - m ∧ i = .int .i64 m ∧ Turn (fun _ => False) w wr)
  case atStart => exact ⟨0, by omega, rfl, rfl, Turn.refl _ _⟩
  case round =>
    obtain ⟨m, hmn, hgk, rfl, hT⟩ := hrel
    by_cases hlt : m < n
    · have k1 := (H1.out.turn hT (fun x => x)).cell hlt
      have k2 := (H2.out.turn hT (fun x => x)).cell hlt
      have i0 : (0 : Int) ≤ (m : Int) := by omega
      have i1 : (m : Int) < (n : Int) := by omega
      go_wp2
      go_quiet (fail)
      go_wp2
      go_roundg (n - (m + 1))
      case measure => omega
      case rel => exact ⟨m + 1, by omega, rfl, by go_num, hT.drewN _⟩
    · go_wp2
      go_ret
      exact ⟨rfl, hT⟩
end Go.Proofs.Ybulkegoo
