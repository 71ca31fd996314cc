import Derived.Test.YbulkegnmS
namespace Go.Proofs.Ybulkegnm
open Go Go.RowKit

theorem new_cell (w : World) (u : Value) (E : TypeId) : ∀ j, j < 1 → (w.alloc (.cells #[u] E)).cell? ⟨w.heap.size, j, none⟩ = some u := by
  intro j hj
  obtain rfl : j = 0 := by omega
  rw [cell_of_row _ _ _ _ _ _ (heap_alloc_new w _)]
  rfl
theorem new_two (w : World) (u v : Value) (E : TypeId) : ∀ j, j < 2 → (w.alloc (.cells #[u, v] E)).cell? ⟨w.heap.size, j, none⟩ = some (if j = 0 then u else v) := by
  intro j hj
  rw [cell_of_row _ _ _ _ _ _ (heap_alloc_new w _)]
  rcases (show j = 0 ∨ j = 1 by omega) with rfl | rfl <;> rfl
theorem info3 : (Yba.prog.info? 3).map (fun i => (i.zero, i.size, i.bytes)) = some (some (.int .i64 0), 1, 8) := by kernel_rfl
theorem info63 : (Yba.prog.info? 63).map (fun i => (i.zero, i.size, i.bytes)) = some (some (.agg #[.int .i64 0, .int .i64 0]), 2, 16) := by kernel_rfl
theorem nats_push (L : List Nat) (x i : Nat) (hi : i < L.length + 1) : (if i < L.length * 1 then nats L i else Value.int .i64 (x : Int)) = nats (L ++ [x]) i := by
  unfold nats
  by_cases h : i < L.length
  · rw [if_pos (by omega), List.getD_eq_getElem?_getD, List.getD_eq_getElem?_getD, List.getElem?_append_left h]
  · rw [if_neg (by omega)]
    obtain rfl : i = L.length := by omega
    simp [List.getD_eq_getElem?_getD]
theorem frs_push (C : List (Nat × Nat)) (a b i : Nat) (hi : i < (C.length + 1) * 2) : (if i < C.length * 2 then frs C i else if i - C.length * 2 = 0 then Value.int .i64 (a : Int) else Value.int .i64 (b : Int)) = frs (C ++ [(a, b)]) i := by
  unfold frs
  by_cases h : i / 2 < C.length
  · rw [if_pos (by omega), List.getD_eq_getElem?_getD, List.getD_eq_getElem?_getD, List.getElem?_append_left h]
  · rw [if_neg (by omega)]
    have e : i / 2 = C.length := by omega
    rw [e]
    by_cases h2 : i % 2 = 0
    · rw [if_pos (by omega), if_pos h2]; simp
    · rw [if_neg (by omega), if_neg h2]; simp

set_option maxHeartbeats 2000000 in
set_option maxRecDepth 100000 in
theorem enter_any (M : Nat → Prop) (T gV gL gO B N : Nat) (aS : Option Addr) (cS : Nat) (aC : Option Addr) (cC : Nat) (s : TS) (v : Nat) (w : World) (h : Tw w M T gV gL gO B N aS cS aC cC s) (up : ∀ c, w.heap.size ≤ c → M c) (hv : v < N) (b0 : s.cnt ≤ 1000) (b1 : s.stk.length ≤ 1000) (b2 : s.calls.length ≤ 1000) :
    Calls Yba.prog 12 #[.pointer (some ⟨T, 0, none⟩), .int .i64 (v : Int)] w fun e w' => ∃ aS' cS' aC' cC', e = .returned (.tuple #[]) ∧ Turn M w w' ∧ Tw w' M T gV gL gO B N aS' cS' aC' cC' (s.enter v) := by
  have HU : Hid (∀ c, w.heap.size ≤ c → M c) := up
  have HH : Hid (Tw w M T gV gL gO B N aS cS aC cC s) := h
  have x5 : w.cell? ⟨T, 5, none⟩ = some (.int .i64 (s.cnt : Int)) := h.o.cell (by omega)
  have fT : ∀ j, w.frozen? ⟨T, j, none⟩ = false := fun j => h.o.frozen j
  have i0 : (0 : Int) ≤ (v : Int) := by omega
  have i1 : (v : Int) < (N : Int) := by omega
  obtain ⟨c, hc⟩ : ∃ c, c = s.cnt := ⟨_, rfl⟩
  rw [← hc] at x5 b0
  have HC : Hid (c = s.cnt) := hc
  clear h up hc
  go_enter Yba.func12, Yba.ntmps12
  go_upto_region 1 with fail
  obtain ⟨d, hd⟩ : ∃ d : Nat, d = c + 1 := ⟨_, rfl⟩
  have e1 : (c : Int) + 1 = (d : Int) := by omega
  have HD : Hid (d = s.cnt + 1) := by rw [← HC.out]; exact hd
  rw [e1]
  have h1 := HH.out.setCnt d
  have T1 : Turn M w (w.setCell ⟨T, 5, none⟩ (.int .i64 (d : Int))) := (Turn.refl M w).setCell (p := ⟨T, 5, none⟩) (.inr HH.out.mT) _
  generalize w.setCell ⟨T, 5, none⟩ (.int .i64 (d : Int)) = w1 at h1 T1 ⊢
  have db : d ≤ 1001 := by omega
  clear hd e1 x5 fT
  have y0 : w1.cell? ⟨T, 0, none⟩ = some (.slice (some ⟨gV, 0, none⟩) N N) := h1.o.cell (by omega)
  have y5 : w1.cell? ⟨T, 5, none⟩ = some (.int .i64 (d : Int)) := h1.o.cell (by omega)
  have yv : w1.cell? ⟨gV, v, none⟩ = some (.int .i64 (s.vis v : Nat)) := h1.v.cell hv
  have fv : w1.frozen? ⟨gV, v, none⟩ = false := h1.v.frozen v
  have H1 : Hid (Tw w1 M T gV gL gO B N aS cS aC cC { s with cnt := d }) := h1
  clear h1
  go_cut [] from 11 to 20 (fun wx => Hid (Turn M w wx) ∧ Hid (Tw wx M T gV gL gO B N aS cS aC cC { s with cnt := d, vis := upd s.vis v d }))
  case first =>
    go_region
    all_goals
      go_wp2
      go_meet
      case rel => exact ⟨(T1.setCell (p := ⟨gV, v, none⟩) (.inr HH.out.mV) _).drew, (H1.out.setVis v d).turn (Turn.refl _ _).drew⟩
  case rest =>
    obtain ⟨T2, H2⟩ := hcut
    obtain ⟨w2, hw2⟩ : ∃ w2 : World, w2 = wc := ⟨_, rfl⟩
    rw [← hw2] at T2 H2 ⊢
    clear hw2 y0 y5 yv fv T1
    have y1 : w2.cell? ⟨T, 1, none⟩ = some (.slice (some ⟨gL, 0, none⟩) N N) := H2.out.o.cell (by omega)
    have y5 : w2.cell? ⟨T, 5, none⟩ = some (.int .i64 (d : Int)) := H2.out.o.cell (by omega)
    have yl : w2.cell? ⟨gL, v, none⟩ = some (.int .i64 (s.low v : Nat)) := H2.out.l.cell hv
    have fl : w2.frozen? ⟨gL, v, none⟩ = false := H2.out.l.frozen v
    go_upto_region 2 with fail
    go_cut [] from 21 to 30 (fun wx => Hid (Turn M w wx) ∧ Hid (Tw wx M T gV gL gO B N aS cS aC cC { s with cnt := d, vis := upd s.vis v d, low := upd s.low v d }))
    case first =>
      go_region
      all_goals
        go_wp2
        go_meet
        case rel => exact ⟨(T2.out.setCell (p := ⟨gL, v, none⟩) (.inr HH.out.mL) _).drew, (H2.out.setLow v d).turn (Turn.refl _ _).drew⟩
    case rest =>
      obtain ⟨T3, H3⟩ := hcut
      obtain ⟨w3, hw3⟩ : ∃ w3 : World, w3 = wc := ⟨_, rfl⟩
      rw [← hw3] at T3 H3 ⊢
      clear hw3 y1 y5 yl fl T2 H2 H1
      have y3 : w3.cell? ⟨T, 3, none⟩ = some (.slice aS s.stk.length cS) := H3.out.o.cell (by omega)
      have H3a : Hid (Tw (w3.alloc (.cells #[.int .i64 (v : Int)] 3)) M T gV gL gO B N aS cS aC cC { s with cnt := d, vis := upd s.vis v d, low := upd s.low v d }) := H3.out.turn ((Turn.refl _ _).alloc _)
      have y3a : (w3.alloc (.cells #[.int .i64 (v : Int)] 3)).cell? ⟨T, 3, none⟩ = some (.slice aS s.stk.length cS) := H3a.out.o.cell (by omega)
      have fTa : ∀ j, (w3.alloc (.cells #[.int .i64 (v : Int)] 3)).frozen? ⟨T, j, none⟩ = false := fun j => H3a.out.o.frozen j
      have lT := H3a.out.o.lt
      have nT : ¬ (aS = some ⟨T, 0, none⟩) := fun e => (H3a.out.st.ty T e).ne H3a.out.tT (by decide) rfl
      have HST : Hid (OwK (w3.alloc (.cells #[.int .i64 (v : Int)] 3)) 3 1 aS s.stk.length cS (nats s.stk)) := H3a.out.st
      have m1 : s.stk.length + 1 ≤ maxLen := by unfold maxLen; omega
      obtain ⟨j0, j1, j2, j3, j4⟩ := info_parts info3
      go_upto_region 4 with (at_builtin; refine wpList_append_k _ rfl (.tmp 35) (.tmp 37) 36 rfl 3 j0 (.int .i64 0) 1 8 Yba.underlying36 j1 j2 j3 j4 rfl (by omega) aS s.stk.length cS (nats s.stk) rfl HST.out w3.heap.size 1 (fun _ => .int .i64 (v : Int)) rfl (new_cell _ _ _) (fun _ _ => rfl) m1 (by omega) (w3.heap.size + 1) (by simp) ?_; intro g' c' w4 s4 t4 l4; have y4 := t4.cell y3a nT; have f4 : ∀ j, w4.frozen? ⟨T, j, none⟩ = false := fun j => (t4.frozen (p := ⟨T, j, none⟩) lT nT).trans (fTa j))
      have hMg : M g' := by
        rcases l4 with e | e
        · exact H3.out.mS g' e
        · exact HU.out _ (by have := T3.out.size; omega)
      have hlg : aS = some ⟨g', 0, none⟩ ∨ (w3.alloc (.cells #[.int .i64 (v : Int)] 3)).heap.size ≤ g' := by
        rcases l4 with e | e
        · exact .inl e
        · right; rw [e]; simp
      have h5 := H3a.out.pushS t4 v s4 (fun i hi => nats_push s.stk v i hi) hlg hMg
      have T5 : Turn M w (w4.setCell ⟨T, 3, none⟩ (.slice (some ⟨g', 0, none⟩) (s.stk.length + 1) c')) := ((T3.out.alloc _).trans t4 (fun c _ y => H3.out.mS c y)).setCell (p := ⟨T, 3, none⟩) (.inr H3.out.mT) _
      generalize w4.setCell ⟨T, 3, none⟩ (.slice (some ⟨g', 0, none⟩) (s.stk.length + 1) c') = w5 at h5 T5 ⊢
      have y2 : w5.cell? ⟨T, 2, none⟩ = some (.slice (some ⟨gO, 0, none⟩) N N) := h5.o.cell (by omega)
      have yo : w5.cell? ⟨gO, v, none⟩ = some (.bool (s.onS v)) := h5.on.cell hv
      have fo : w5.frozen? ⟨gO, v, none⟩ = false := h5.on.frozen v
      have H5 : Hid (Tw w5 M T gV gL gO B N (some ⟨g', 0, none⟩) c' aC cC { s with cnt := d, vis := upd s.vis v d, low := upd s.low v d, stk := s.stk ++ [v] }) := h5
      clear h5 y3 y3a y4 f4 fTa s4 t4 l4 H3a HST nT lT hlg hMg H3 T3
      go_upto_region 5 with fail
      have h6 := H5.out.setOn v true
      have T6 : Turn M w (w5.setCell ⟨gO, v, none⟩ (.bool true)) := T5.setCell (p := ⟨gO, v, none⟩) (.inr H5.out.mO) _
      generalize w5.setCell ⟨gO, v, none⟩ (.bool true) = w6 at h6 T6 ⊢
      have z4 : w6.cell? ⟨T, 4, none⟩ = some (.slice aC s.calls.length cC) := h6.o.cell (by omega)
      have H6 : Hid (Tw w6 M T gV gL gO B N (some ⟨g', 0, none⟩) c' aC cC { s with cnt := d, vis := upd s.vis v d, low := upd s.low v d, stk := s.stk ++ [v], onS := upd s.onS v true }) := h6
      have H6a : Hid (Tw (w6.alloc (.cells #[.int .i64 (v : Int), .int .i64 0] 63)) M T gV gL gO B N (some ⟨g', 0, none⟩) c' aC cC { s with cnt := d, vis := upd s.vis v d, low := upd s.low v d, stk := s.stk ++ [v], onS := upd s.onS v true }) := h6.turn ((Turn.refl _ _).alloc _)
      have z4a : (w6.alloc (.cells #[.int .i64 (v : Int), .int .i64 0] 63)).cell? ⟨T, 4, none⟩ = some (.slice aC s.calls.length cC) := H6a.out.o.cell (by omega)
      have fTa : ∀ j, (w6.alloc (.cells #[.int .i64 (v : Int), .int .i64 0] 63)).frozen? ⟨T, j, none⟩ = false := fun j => H6a.out.o.frozen j
      have lT := H6a.out.o.lt
      have nT : ¬ (aC = some ⟨T, 0, none⟩) := fun e => (H6a.out.ca.ty T e).ne H6a.out.tT (by decide) rfl
      have HSC : Hid (OwK (w6.alloc (.cells #[.int .i64 (v : Int), .int .i64 0] 63)) 63 2 aC s.calls.length cC (frs s.calls)) := H6a.out.ca
      have m2 : s.calls.length + 1 ≤ maxLen := by unfold maxLen; omega
      obtain ⟨k0, k1, k2, k3, k4⟩ := info_parts info63
      clear h6 y2 yo fo H5 T5
      go_wp2_with (at_builtin; refine wpList_append_k _ rfl (.tmp 51) (.tmp 54) 55 rfl 63 k0 (.agg #[.int .i64 0, .int .i64 0]) 2 16 Yba.underlying55 k1 k2 k3 k4 rfl (by omega) aC s.calls.length cC (frs s.calls) rfl HSC.out w6.heap.size 1 (fun j => if j = 0 then .int .i64 (v : Int) else .int .i64 ((0 : Nat) : Int)) rfl (new_two _ _ _ _) (by intro j _; show (if j = 0 then _ else _ : Value).oneCell' = true; split <;> rfl) m2 (by omega) (w6.heap.size + 1) (by simp) ?_; intro g2 c2 w7 s7 t7 l7; have z4b := t7.cell z4a nT; have f7 : ∀ j, w7.frozen? ⟨T, j, none⟩ = false := fun j => (t7.frozen (p := ⟨T, j, none⟩) lT nT).trans (fTa j))
      go_end0
      have hMg : M g2 := by
        rcases l7 with e | e
        · exact H6.out.mC g2 e
        · exact HU.out _ (by have := T6.size; omega)
      have h8 := H6a.out.pushC t7 (v, 0) s7 (fun i hi => frs_push s.calls v 0 i hi) hMg
      have T8 : Turn M w (w7.setCell ⟨T, 4, none⟩ (.slice (some ⟨g2, 0, none⟩) (s.calls.length + 1) c2)) := ((T6.alloc _).trans t7 (fun c _ y => H6.out.mC c y)).setCell (p := ⟨T, 4, none⟩) (.inr H6.out.mT) _
      refine ⟨some ⟨g', 0, none⟩, c', some ⟨g2, 0, none⟩, c2, rfl, T8, ?_⟩
      have e8 : s.enter v = { s with cnt := d, vis := upd s.vis v d, low := upd s.low v d, stk := s.stk ++ [v], onS := upd s.onS v true, calls := s.calls ++ [(v, 0)] } := by
        rw [HD.out]; rfl
      rw [e8]
      exact h8
end Go.Proofs.Ybulkegnm
