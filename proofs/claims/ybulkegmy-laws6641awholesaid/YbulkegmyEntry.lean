import Derived.Test.YbulkegmyEnc
import Derived.Deep.RegionWith
namespace Go.Proofs.Ybulkegmy
open Go.RowKit

/-- Thirty-two bytes as an array of values. -/
def arr32 (z : Nat → Int) : Array Value := ((List.range 32).map (fun j => Value.int .u8 (z j))).toArray
theorem arr32_size (z : Nat → Int) : (arr32 z).size = 32 := by simp [arr32]
theorem arr32_get (z : Nat → Int) (i : Nat) (h : i < 32) : (arr32 z)[i]? = some (.int .u8 (z i)) := by simp [arr32, h]
theorem arr32_one (z : Nat → Int) : (arr32 z).all (·.oneCell') = true := by
  rw [Array.all_eq_true_iff_forall_mem]
  intro v hv
  simp only [arr32, List.mem_toArray, List.mem_map] at hv
  obtain ⟨j, _, rfl⟩ := hv
  rfl
theorem row32 {w : World} {b : Nat} {t : TypeId} {z : Nat → Int} (h : w.rowIs b t 32 (fun j => .int .u8 (z j))) : w.heap[b]? = some (.cells (arr32 z) t (0, 0)) := row_arr h
theorem row32_mk {w : World} {b : Nat} {t : TypeId} {z : Nat → Int} (h : w.heap[b]? = some (.cells (arr32 z) t (0, 0))) : w.rowIs b t 32 (fun j => .int .u8 (z j)) := ⟨_, h, arr32_size z, fun i hi => arr32_get z i hi⟩
theorem size37 : (Yba.prog.info? 37).map (·.size) = some 32 := by kernel_rfl
theorem size35 : (Yba.prog.info? 35).map (·.size) = some 32 := by kernel_rfl

theorem method_enc (a : Addr) (w : World) : (method 241 24 (.pointer (some a)) "Encrypt").run Yba.prog w = .ok (21, .pointer (some a)) w := by kernel_rfl
theorem heap3 (w : World) (A B C : Obj) : (((w.alloc A).alloc B).alloc C).heap[w.heap.size + 2]? = some C := by
  have := heap_alloc_new ((w.alloc A).alloc B) C
  simpa using this
theorem hiOf {t : TypeId} {n : Nat} {c : Array Value} (h : (Yba.prog.info? t).map (·.size) = some n) (hc : c.size = n) : (Yba.prog.info? t).map (·.size) = some c.size := by rw [hc]; exact h
structure EntPost (S : Nat) (hz kz : Nat → Int) (w wx : World) (g1 c1 g2 c2 g3 c3 : Nat) : Prop where
  st : wx.rowIs S 28 19 (stF kz (.int .i64 1) (.slice (some ⟨g1, 0, none⟩) 1 c1) (.slice (some ⟨g2, 0, none⟩) 1 c2))
  turn : Turn (fun k => k = S) w wx
  g1a : w.heap.size ≤ g1
  g2a : w.heap.size ≤ g2
  g3a : w.heap.size ≤ g3
  at1 : wx.cell? ⟨g1, 0, none⟩ = some (.slice (some ⟨g3, 0, none⟩) 16 c3)
  at2 : wx.cell? ⟨g2, 0, none⟩ = some (.int .i64 16)
  at3 : ∀ j, j < 16 → wx.cell? ⟨g3, j, none⟩ = some (.int .u8 (hz j))
/-- The three new blocks of entryHash: the boxed h, the result's, e. -/
structure Ent1 (w wx : World) (hz : Nat → Int) (z : Array Value) : Prop where
  src : wx.rowIs w.heap.size 37 32 (fun j => .int .u8 (hz j))
  res : wx.heap[w.heap.size + 1]? = some (.cells z 35 (0, 0))
  loc : wx.rowIs (w.heap.size + 2) 35 32 (fun j => .int .u8 (hz j))
  turn : Turn (fun _ => False) w wx
theorem ent1_mk (w : World) (hz : Nat → Int) (z : Array Value) : Ent1 w ((((w.alloc (.cells (arr32 hz) 37)).alloc (.cells z 35)).alloc (.cells z 35)).setRow (w.heap.size + 2) (arr32 hz)) hz z where
  src := row32_mk (by
    rw [setRow_other _ _ _ _ (by omega), Below.heap_alloc _ _ _ (by simp; omega)]
    exact heap_alloc2_old w _ _)
  res := by
    rw [setRow_other _ _ _ _ (by omega), Below.heap_alloc _ _ _ (by simp)]
    exact heap_alloc2_new w _ _
  loc := row32_mk (setRow_heap _ _ _ _ _ _ (heap3 w _ _ _))
  turn := ((((Turn.refl (fun _ => False) w).alloc _).alloc _).alloc _).setRow (.inl (by omega)) _
theorem entPost_mk {S : Nat} {hz kz : Nat → Int} {w wa wb : World} {z : Array Value} {g1 c1 g2 c2 g3 c3 : Nat} (hS : S < w.heap.size) (hE : Ent1 w wa hz z) (hP : EncPost S (w.heap.size + 2) hz kz wa.drew wb g1 c1 g2 c2 g3 c3) (cs : Array Value) :
    EntPost S hz kz w (wb.setRow (w.heap.size + 1) cs) g1 c1 g2 c2 g3 c3 := by
  have h3 : w.heap.size + 2 < wa.heap.size := hE.loc.lt
  have a1 : wa.heap.size ≤ g1 := hP.g1a
  have a2 : wa.heap.size ≤ g2 := hP.g2a
  have a3 : wa.heap.size ≤ g3 := hP.g3a
  refine ⟨hP.st.of_block (setRow_other _ _ _ _ (by omega)), ?_, by omega, by omega, by omega, ?_, ?_, ?_⟩
  · refine Turn.setRow ?_ (.inl (by omega)) _
    have h1 : Turn (fun k => k = S) w wa.drew := (hE.turn.mono (fun _ _ h => h.elim)).drew
    exact h1.trans hP.turn (fun i hi h => by rcases h with h | h; exact h; omega)
  · rw [cell_setRow_other _ _ _ _ (by show g1 ≠ _; omega)]; exact hP.at1
  · rw [cell_setRow_other _ _ _ _ (by show g2 ≠ _; omega)]; exact hP.at2
  · intro j hj
    rw [cell_setRow_other _ _ _ _ (by show g3 ≠ _; omega)]; exact hP.at3 j hj
def z35 : Array Value := #[.int .u8 0, .int .u8 0, .int .u8 0, .int .u8 0, .int .u8 0, .int .u8 0, .int .u8 0, .int .u8 0, .int .u8 0, .int .u8 0, .int .u8 0, .int .u8 0, .int .u8 0, .int .u8 0, .int .u8 0, .int .u8 0, .int .u8 0, .int .u8 0, .int .u8 0, .int .u8 0, .int .u8 0, .int .u8 0, .int .u8 0, .int .u8 0, .int .u8 0, .int .u8 0, .int .u8 0, .int .u8 0, .int .u8 0, .int .u8 0, .int .u8 0, .int .u8 0]

set_option maxRecDepth 100000 in
set_option maxHeartbeats 1000000 in
theorem entry_any (T S : Nat) (hz kz : Nat → Int) (w : World) (hS : w.rowIs S 28 19 (stF kz (.int .i64 0) (.slice none 0 0) (.slice none 0 0)))
    (hT : w.cell? ⟨T, 1, none⟩ = some (.iface 24 (.pointer (some ⟨S, 0, none⟩)))) :
    Calls Yba.prog 4 #[.pointer (some ⟨T, 0, none⟩), .agg (arr32 hz)] w fun e w' => e = .returned (.agg (arr32 (encTo 16 hz kz))) ∧ ∃ g1 c1 g2 c2 g3 c3 : Nat, EntPost S hz kz w w' g1 c1 g2 c2 g3 c3 := by
  have HS : Hid (w.rowIs S 28 19 (stF kz (.int .i64 0) (.slice none 0 0) (.slice none 0 0))) := hS
  clear hS
  go_enter Yba.func4, Yba.ntmps4
  go_upto_region 1 with fail
  go_cut [5] (fun s5 wx => s5 = .pointer (some ⟨w.heap.size + 2, 0, none⟩) ∧ Ent1 w wx hz z35)
  case first =>
    go_wp2_with (first | (refine wpList_load_row rfl 37 (.tmp 3) rfl w.heap.size rfl 37 (arr32 hz) (0, 0) _ (heap_alloc2_old w _ _) Yba.underlying37 rfl (hiOf size37 (arr32_size hz)) ?_) | (refine wpList_store_row rfl 35 (.tmp 5) (.tmp 6) rfl (w.heap.size + 2) (arr32 hz) rfl rfl 35 _ (heap3 w _ _ _) (hiOf size35 (arr32_size hz)) (by rw [arr32_size]; rfl) (arr32_one hz) ?_))
    go_meet
    case rel => exact ⟨rfl, ent1_mk w hz z35⟩
  case rest =>
    obtain ⟨rfl, hE⟩ := hcut
    obtain ⟨wa, rfl⟩ : ∃ wa : World, wa = wc := ⟨_, rfl⟩
    have kT : wa.cell? ⟨T, 1, none⟩ = some (.iface 24 (.pointer (some ⟨S, 0, none⟩))) := hE.turn.cell hT (fun h => h)
    have RS : Hid (wa.rowIs S 28 19 (stF kz (.int .i64 0) (.slice none 0 0) (.slice none 0 0))) := hE.turn.row HS.out (fun h => h)
    have lS := HS.out.lt
    have hmeth := method_enc
    go_wp2_with fail
    go_region_with (go_at_call 21; refine (enc_any S (w.heap.size + 2) w.heap.size hz kz _ RS.out.drew hE.loc.drew hE.src.drew (by omega) (by omega) (by omega)).mono ?_; rintro e wb ⟨rfl, g1, c1, g2, c2, g3, c3, hP⟩)
    have HL : Hid (wb.heap[w.heap.size + 2]? = some (.cells (arr32 (encTo 16 hz kz)) 35 (0, 0))) := row32 hP.dst
    have HRs : Hid (wb.heap[w.heap.size + 1]? = some (.cells z35 35 (0, 0))) := by
      refine (hP.turn.block _ ?_ ?_).trans hE.res
      · have := hE.loc.lt; show w.heap.size + 1 < wa.heap.size; omega
      · intro h; rcases h with h | h <;> omega
    go_wp2_with (first | (refine wpList_load_row rfl 35 (.tmp 5) rfl (w.heap.size + 2) rfl 35 (arr32 (encTo 16 hz kz)) (0, 0) _ HL.out Yba.underlying35 rfl (hiOf size35 (arr32_size _)) ?_) | (refine wpList_store_row rfl 35 (.tmp 4) (.tmp 16) rfl (w.heap.size + 1) (arr32 (encTo 16 hz kz)) rfl rfl 35 _ HRs.out (hiOf size35 (arr32_size _)) (by rw [arr32_size]; rfl) (arr32_one _) ?_))
    refine bodyPost_ret (v := .agg (arr32 (encTo 16 hz kz))) ?_ rfl ⟨rfl, g1, c1, g2, c2, g3, c3, entPost_mk lS hE hP _⟩
    exact results_cell_row Yba.results4 _ _ (w.heap.size + 1) 35 (arr32 (encTo 16 hz kz)) (0, 0) _ rfl (setRow_heap _ _ _ _ _ _ HRs.out) Yba.underlying35 rfl (hiOf size35 (arr32_size _))
end Go.Proofs.Ybulkegmy
