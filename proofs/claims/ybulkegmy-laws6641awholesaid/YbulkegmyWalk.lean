import Derived.Test.YbulkegmyLaw
namespace Go.Proofs.Ybulkegmy
open Go.RowKit

theorem wpList_build' {P : Program} {ops : Array Oper} {rest : List Oper} {o : Oper} {a : Act} {w : World} {Q : Exit → Act → World → Prop} (hg : o.guard = none) (t : TypeId) (parts : Array (Nat × Operand)) (ho : o.op = .build t parts)
    (cells : Array Value) (hc : P.built t (parts.map fun (i, x) => (i, a.eval x)).toList = some cells)
    (h : wpList P ops Q rest (a.put o.dst (.agg cells)) w) : wpList P ops Q (o :: rest) a w :=
  wpList_build hg t parts ho (by rw [hc]; rfl) (by rw [hc]; exact h)

/-- The four new blocks ahead of 'h0 := h'. -/
structure Lm0 (w wx : World) (hz kz : Nat → Int) : Prop where
  h : wx.rowIs w.heap.size 22 32 (fun j => .int .u8 (hz j))
  key : wx.rowIs (w.heap.size + 1) 23 16 (fun j => .int .u8 (kz j))
  st : wx.rowIs (w.heap.size + 2) 28 19 (stF kz (.int .i64 0) (.slice none 0 0) (.slice none 0 0))
  ix : wx.cell? ⟨w.heap.size + 3, 1, none⟩ = some (.iface 24 (.pointer (some ⟨w.heap.size + 2, 0, none⟩)))
  turn : Turn (fun _ => False) w wx
/-- The five new blocks ahead of the call: 'g0' is h0's. -/
structure Lm1 (w wx : World) (g0 : Nat) (hz kz : Nat → Int) : Prop extends Lm0 w wx hz kz where
  h0 : wx.rowIs g0 22 32 (fun j => .int .u8 (hz j))
  g0a : w.heap.size + 3 < g0

/-- What the checks read: 'E' is e's block. -/
structure Lm2 (w wx : World) (g0 E : Nat) (hz kz : Nat → Int) (g1 c1 g2 c2 g3 c3 : Nat) : Prop where
  h : wx.rowIs w.heap.size 22 32 (fun j => .int .u8 (hz j))
  key : wx.rowIs (w.heap.size + 1) 23 16 (fun j => .int .u8 (kz j))
  st : wx.rowIs (w.heap.size + 1 + 1) 28 19 (stF kz (.int .i64 1) (.slice (some ⟨g1, 0, none⟩) 1 c1) (.slice (some ⟨g2, 0, none⟩) 1 c2))
  h0 : wx.rowIs g0 22 32 (fun j => .int .u8 (hz j))
  e : wx.rowIs E 35 32 (fun j => .int .u8 (encTo 16 hz kz j))
  at1 : wx.cell? ⟨g1, 0, none⟩ = some (.slice (some ⟨g3, 0, none⟩) 16 c3)
  at2 : wx.cell? ⟨g2, 0, none⟩ = some (.int .i64 16)
  at3 : ∀ j, j < 16 → wx.cell? ⟨g3, j, none⟩ = some (.int .u8 (hz j))
  turn : Turn (fun _ => False) w wx
theorem Lm2.carry {w wx wy : World} {g0 E : Nat} {hz kz : Nat → Int} {g1 c1 g2 c2 g3 c3 : Nat} (h : Lm2 w wx g0 E hz kz g1 c1 g2 c2 g3 c3) (t : Turn (fun _ => False) wx wy) : Lm2 w wy g0 E hz kz g1 c1 g2 c2 g3 c3 where
  h := t.row h.h (fun x => x)
  key := t.row h.key (fun x => x)
  st := t.row h.st (fun x => x)
  h0 := t.row h.h0 (fun x => x)
  e := t.row h.e (fun x => x)
  at1 := t.cell h.at1 (fun x => x)
  at2 := t.cell h.at2 (fun x => x)
  at3 := fun j hj => t.cell (h.at3 j hj) (fun x => x)
  turn := h.turn.trans t (fun _ _ x => x)
theorem lm2_mk {w wb wd : World} {g0 : Nat} {hz kz : Nat → Int} {g1 c1 g2 c2 g3 c3 : Nat} (hM : Lm1 w wb g0 hz kz) (hP : EntPost (w.heap.size + 2) hz kz wb wd g1 c1 g2 c2 g3 c3) (z : Array Value) :
    Lm2 w ((wd.alloc (.cells z 35)).setRow wd.heap.size (arr32 (encTo 16 hz kz))) g0 wd.heap.size hz kz g1 c1 g2 c2 g3 c3 := by
  have t1 : Turn (fun _ => False) wd ((wd.alloc (.cells z 35)).setRow wd.heap.size (arr32 (encTo 16 hz kz))) := ((Turn.refl (fun _ => False) wd).alloc _).setRow (.inl (Nat.le_refl _)) _
  have l3 := cell_below hM.ix
  have l0 := hM.g0a
  simp only at l3
  refine ⟨t1.row (hP.turn.row hM.h (by omega)) (fun x => x), t1.row (hP.turn.row hM.key (by omega)) (fun x => x), t1.row hP.st (fun x => x), t1.row (hP.turn.row hM.h0 (by omega)) (fun x => x),
    row32_mk (setRow_heap _ _ _ _ _ _ (heap_alloc_new wd _)), t1.cell hP.at1 (fun x => x), t1.cell hP.at2 (fun x => x), fun j hj => t1.cell (hP.at3 j hj) (fun x => x), ?_⟩
  exact (hM.turn.trans hP.turn (fun i hi h => by omega)).trans t1 (fun _ _ x => x)
def z28 : Array Value := #[.int .u8 0, .int .u8 0, .int .u8 0, .int .u8 0, .int .u8 0, .int .u8 0, .int .u8 0, .int .u8 0, .int .u8 0, .int .u8 0, .int .u8 0, .int .u8 0, .int .u8 0, .int .u8 0, .int .u8 0, .int .u8 0, .int .i64 0, .slice none 0 0, .slice none 0 0]
theorem fold19 (kz : Nat → Int) : Array.foldl (fun cs x => cs.setIfInBounds x.snd x.fst) z28 (arr16 kz).zipIdx 0 16 = arr19 kz := by kernel_rfl
theorem h4_0 (w : World) (A B C D : Obj) : ((((w.alloc A).alloc B).alloc C).alloc D).heap[w.heap.size]? = some A := by
  rw [Below.heap_alloc _ _ _ (by simp; omega), Below.heap_alloc _ _ _ (by simp; omega)]
  exact heap_alloc2_old w _ _
theorem h4_1 (w : World) (A B C D : Obj) : ((((w.alloc A).alloc B).alloc C).alloc D).heap[w.heap.size + 1]? = some B := by
  rw [Below.heap_alloc _ _ _ (by simp), Below.heap_alloc _ _ _ (by simp)]
  exact heap_alloc2_new w _ _
theorem h4_2 (w : World) (A B C D : Obj) : ((((w.alloc A).alloc B).alloc C).alloc D).heap[w.heap.size + 2]? = some C := by
  rw [Below.heap_alloc _ _ _ (by simp)]
  exact heap3 w _ _ _
theorem h4_3 (w : World) (A B C D : Obj) : ((((w.alloc A).alloc B).alloc C).alloc D).heap[w.heap.size + 3]? = some D := by
  have := heap_alloc_new (((w.alloc A).alloc B).alloc C) D
  simpa using this
theorem lm0_mk (w : World) (hz kz : Nat → Int) (c19 : Array Value) (h19 : c19 = arr19 kz) :
    Lm0 w ((((w.alloc (.cells (arr32 hz) 22)).alloc (.cells (arr16 kz) 23)).alloc (.cells c19 28)).alloc (.cells #[.pointer none, .iface 24 (.pointer (some ⟨w.heap.size + 1 + 1, 0, none⟩))] 34)) hz kz where
  h := row32_mk (h4_0 w _ _ _ _)
  key := ⟨arr16 kz, h4_1 w _ _ _ _, arr16_size kz, fun i hi => arr16_get kz i hi⟩
  st := ⟨arr19 kz, by rw [← h19]; exact h4_2 w _ _ _ _, by simp [arr19], fun i hi => by simp [arr19, hi]⟩
  ix := by
    rw [cell_of_row _ _ 1 _ _ _ (h4_3 w _ _ _ _)]
    rfl
  turn := ((((Turn.refl (fun _ => False) w).alloc _).alloc _).alloc _).alloc _
theorem lm1_mk {w wa : World} {hz kz : Nat → Int} (hL : Lm0 w wa hz kz) (z : Array Value) : Lm1 w ((wa.alloc (.cells z 22)).setRow wa.heap.size (arr32 hz)) wa.heap.size hz kz where
  h := (hL.h.alloc _).of_block (setRow_other _ _ _ _ (by have := hL.h.lt; omega))
  key := (hL.key.alloc _).of_block (setRow_other _ _ _ _ (by have := hL.key.lt; omega))
  st := (hL.st.alloc _).of_block (setRow_other _ _ _ _ (by have := hL.st.lt; omega))
  ix := by
    have := cell_below hL.ix
    rw [cell_setRow_other _ _ _ _ (by show w.heap.size + 3 ≠ _; simp at this; omega)]
    exact ((Turn.refl (fun _ => False) wa).alloc _).cell hL.ix (fun h => h)
  turn := (hL.turn.alloc _).setRow (.inl hL.turn.size) _
  h0 := row32_mk (setRow_heap _ _ _ _ _ _ (heap_alloc_new wa _))
  g0a := cell_below hL.ix

set_option maxRecDepth 100000 in
set_option maxHeartbeats 400000 in
theorem law_walk (hz kz : Nat → Int) (w : World) :
    Calls Yba.prog 3 #[.agg (arr32 hz), .agg (arr16 kz)] w fun e w' => e = .returned (.bool true) ∧ Below w.heap.size w w' := by
  have hsz : (arr16 kz).size = 16 := arr16_size kz
  have hfold : Array.foldl (fun cs (x : Value × Nat) => cs.setIfInBounds x.snd x.fst) #[Value.int IntKind.u8 0, Value.int IntKind.u8 0, Value.int IntKind.u8 0, Value.int IntKind.u8 0, Value.int IntKind.u8 0, Value.int IntKind.u8 0, Value.int IntKind.u8 0, Value.int IntKind.u8 0, Value.int IntKind.u8 0, Value.int IntKind.u8 0, Value.int IntKind.u8 0, Value.int IntKind.u8 0, Value.int IntKind.u8 0, Value.int IntKind.u8 0, Value.int IntKind.u8 0, Value.int IntKind.u8 0, Value.int IntKind.i64 0, Value.slice none 0 0, Value.slice none 0 0] (arr16 kz).zipIdx 0 16 = arr19 kz := fold19 kz
  have hm : Yba.prog.eqGuardType Yba.prog.depth 22 = false := by kernel_rfl
  go_enter Yba.func3, Yba.ntmps3
  go_upto_region 2 with (refine wpList_load_row rfl 23 (.tmp 3) rfl (w.heap.size + 1) rfl 23 (arr16 kz) (0, 0) _ (heap_alloc2_new w _ _) Yba.underlying23 rfl (hiOf size23 (arr16_size kz)) ?_)
  go_cut [6] (fun s6 wx => s6 = .pointer (some ⟨w.heap.size + 3, 0, none⟩) ∧ Lm0 w wx hz kz)
  case first =>
    go_wp2
    go_meet
    case rel => exact ⟨rfl, lm0_mk w hz kz _ rfl⟩
  case rest =>
    obtain ⟨rfl, hL⟩ := hcut
    obtain ⟨wa, rfl⟩ : ∃ wa : World, wa = wc := ⟨_, rfl⟩
    clear hsz hfold
    have HA : Hid (wa.heap[w.heap.size]? = some (.cells (arr32 hz) 22 (0, 0))) := row32 hL.h
    go_upto_region 3 with fail
    go_cut [7] (fun s7 wx => s7 = .pointer (some ⟨wa.heap.size, 0, none⟩) ∧ Lm1 w wx wa.heap.size hz kz)
    case first =>
      go_wp2_with (first | (refine wpList_load_row rfl 22 (.tmp 2) rfl w.heap.size rfl 22 (arr32 hz) (0, 0) _ HA.out Yba.underlying22 rfl (hiOf size22 (arr32_size hz)) ?_) | (refine wpList_store_row rfl 22 (.tmp 7) (.tmp 18) rfl wa.heap.size (arr32 hz) rfl rfl 22 _ (heap_alloc_new wa _) (hiOf size22 (arr32_size hz)) (by rw [arr32_size]; rfl) (arr32_one hz) ?_))
      go_meet
      case rel => exact ⟨rfl, lm1_mk hL _⟩
    case rest =>
      obtain ⟨rfl, hM⟩ := hcut
      obtain ⟨g0, hg0⟩ : ∃ g0, g0 = wa.heap.size := ⟨_, rfl⟩
      rw [← hg0] at hM ⊢
      clear hL HA hg0
      obtain ⟨wb, rfl⟩ : ∃ wb : World, wb = wc := ⟨_, rfl⟩
      have HB : Hid (wb.heap[w.heap.size]? = some (.cells (arr32 hz) 22 (0, 0))) := row32 hM.h
      go_upto_region 4 with fail
      go_cut [8] (fun s8 wx => ∃ E g1 c1 g2 c2 g3 c3 : Nat, s8 = .pointer (some ⟨E, 0, none⟩) ∧ Lm2 w wx g0 E hz kz g1 c1 g2 c2 g3 c3)
      case first =>
        go_wp2_with (first | (refine wpList_load_row rfl 22 (.tmp 2) rfl w.heap.size rfl 22 (arr32 hz) (0, 0) _ HB.out Yba.underlying22 rfl (hiOf size22 (arr32_size hz)) ?_) | (go_at_call 4; refine (entry_any (w.heap.size + 3) (w.heap.size + 2) hz kz wb hM.st hM.ix).mono ?_; rintro e wd ⟨rfl, g1, c1, g2, c2, g3, c3, hP⟩; have tok : True := trivial) | (have _t := tok; refine wpList_store_row rfl 35 (.tmp 8) (.tmp 21) rfl wd.heap.size (arr32 (encTo 16 hz kz)) rfl rfl 35 _ (heap_alloc_new wd _) (hiOf size35 (arr32_size _)) (by rw [arr32_size]; rfl) (arr32_one _) ?_))
        go_meet
        case rel => exact ⟨_, g1, c1, g2, c2, g3, c3, rfl, lm2_mk hM hP _⟩
      case rest =>
        obtain ⟨E, g1, c1, g2, c2, g3, c3, rfl, hN⟩ := hcut
        obtain ⟨we, rfl⟩ : ∃ we : World, we = wc := ⟨_, rfl⟩
        clear hM HB
        have k16 : we.cell? ⟨w.heap.size + 1 + 1, 16, none⟩ = some (.int .i64 1) := hN.st.cell (show 16 < 19 by omega)
        have k17 : we.cell? ⟨w.heap.size + 1 + 1, 17, none⟩ = some (.slice (some ⟨g1, 0, none⟩) 1 c1) := hN.st.cell (show 17 < 19 by omega)
        have k18 : we.cell? ⟨w.heap.size + 1 + 1, 18, none⟩ = some (.slice (some ⟨g2, 0, none⟩) 1 c2) := hN.st.cell (show 18 < 19 by omega)
        have a1 := hN.at1
        have a2 := hN.at2
        go_wp2
        clear k16 k17 k18 a1 a2
        have HN : Hid (Lm2 w we g0 E hz kz g1 c1 g2 c2 g3 c3) := hN
        clear hN
        go_loopg [9] 16 (fun gk i wr => ∃ m : Nat, m ≤ 16 ∧ gk = 16 - m ∧ i = .int .i64 m ∧ Hid (Lm2 w wr g0 E hz kz g1 c1 g2 c2 g3 c3))
        case atStart => exact ⟨0, by omega, rfl, rfl, HN⟩
        case round =>
          obtain ⟨m, hm16, hgk, rfl, HR⟩ := hrel
          by_cases hlt : m < 16
          · have k17 : wr.cell? ⟨w.heap.size + 1 + 1, 17, none⟩ = some (.slice (some ⟨g1, 0, none⟩) 1 c1) := HR.out.st.cell (show 17 < 19 by omega)
            have a1 := HR.out.at1
            have a3 := HR.out.at3 m hlt
            have k0 := HR.out.h0.cell (show m < 32 by omega)
            have kE := HR.out.e.cell (show m < 32 by omega)
            have kK := HR.out.key.cell hlt
            rw [show encTo 16 hz kz m = encB m (hz m) (kz m) from if_pos hlt] at kE
            have i0 : (0 : Int) ≤ (m : Int) := by omega
            have i1 : (m : Int) < (16 : Int) := by omega
            have i2 : (m : Int) < (32 : Int) := by omega
            have hne : (encB m (hz m) (kz m) != (bits BinOp.xor IntKind.u8 (hz m) (kz m) + (m : Int)) % 256) = false := by unfold encB; simp
            go_wp2
            go_quiet (fail)
            go_wp2
            go_quiet (fail)
            go_wp2
            go_roundg (16 - (m + 1))
            case measure => omega
            case rel => exact ⟨m + 1, by omega, rfl, by go_num, HR.out.carry ((Turn.refl (fun _ => False) wr).drewN _)⟩
          · go_wp2
            clear hgk hlt hm16 HN
            obtain ⟨wf, rfl⟩ : ∃ wf : World, wf = wr := ⟨_, rfl⟩
            go_loopg [10] 16 (fun gk i wr => ∃ m : Nat, 16 ≤ m ∧ m ≤ 32 ∧ gk = 32 - m ∧ i = .int .i64 m ∧ Hid (Lm2 w wr g0 E hz kz g1 c1 g2 c2 g3 c3))
            case atStart => exact ⟨16, by omega, by omega, rfl, rfl, HR⟩
            case round =>
              obtain ⟨k, hk16, hk32, hgk, rfl, HS⟩ := hrel
              by_cases hlt : k < 32
              · have k0 := HS.out.h0.cell hlt
                have kE := HS.out.e.cell hlt
                rw [show encTo 16 hz kz k = hz k from if_neg (by omega)] at kE
                have i0 : (0 : Int) ≤ (k : Int) := by omega
                have i2 : (k : Int) < (32 : Int) := by omega
                go_wp2
                go_quiet (fail)
                go_wp2
                go_roundg (32 - (k + 1))
                case measure => omega
                case rel => exact ⟨k + 1, by omega, by omega, rfl, by go_num, HS.out.carry ((Turn.refl (fun _ => False) wr).drewN _)⟩
              · have HA : Hid (wr.heap[w.heap.size]? = some (.cells (arr32 hz) 22 (0, 0))) := row32 HS.out.h
                have HB : Hid (wr.heap[g0]? = some (.cells (arr32 hz) 22 (0, 0))) := row32 HS.out.h0
                have heq := eq22 hz
                go_wp2_with (first | (refine wpList_load_row rfl 22 (.tmp 2) rfl w.heap.size rfl 22 (arr32 hz) (0, 0) _ HA.out Yba.underlying22 rfl (hiOf size22 (arr32_size hz)) ?_) | (refine wpList_load_row rfl 22 (.tmp 7) rfl g0 rfl 22 (arr32 hz) (0, 0) _ HB.out Yba.underlying22 rfl (hiOf size22 (arr32_size hz)) ?_))
                go_ret
                exact ⟨rfl, HS.out.turn.below (Nat.le_refl _) (fun _ h => h.elim)⟩
end Go.Proofs.Ybulkegmy
