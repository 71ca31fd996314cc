import Derived.Test.YbulkegnmW
namespace Go.Proofs.Ybulkegnm
open Go Go.RowKit

theorem info4 : (Yba.prog.info? 4).map (fun i => (i.zero, i.size, i.bytes)) = some (some (.bool false), 1, 1) := by kernel_rfl
def s00 : TS := ⟨fun _ => 0, fun _ => 0, fun _ => false, [], [], 0, true⟩
theorem at4 (w : World) (a b c d : Obj) : ((((w.alloc a).alloc b).alloc c).alloc d).drew.heap[w.heap.size + 1 + 1 + 1]? = some d := by
  have h1 := heap_alloc_new (((w.alloc a).alloc b).alloc c) d
  have h2 : (((w.alloc a).alloc b).alloc c).heap.size = w.heap.size + 1 + 1 + 1 := by simp
  rw [h2] at h1
  exact h1
theorem at3 (w : World) (a b c d : Obj) : ((((w.alloc a).alloc b).alloc c).alloc d).drew.heap[w.heap.size + 1 + 1]? = some c := by
  have h1 := heap_alloc_new ((w.alloc a).alloc b) c
  have e : ((w.alloc a).alloc b).heap.size = w.heap.size + 1 + 1 := by simp
  rw [e] at h1
  have h2 : ((((w.alloc a).alloc b).alloc c).alloc d).heap[w.heap.size + 1 + 1]? = (((w.alloc a).alloc b).alloc c).heap[w.heap.size + 1 + 1]? := heap_alloc_old _ _ (by simp)
  exact h2.trans h1
theorem at2 (w : World) (a b c d : Obj) : ((((w.alloc a).alloc b).alloc c).alloc d).drew.heap[w.heap.size + 1]? = some b := by
  have h1 := heap_alloc_new (w.alloc a) b
  have e : (w.alloc a).heap.size = w.heap.size + 1 := by simp
  rw [e] at h1
  have h2 : ((((w.alloc a).alloc b).alloc c).alloc d).heap[w.heap.size + 1]? = (((w.alloc a).alloc b).alloc c).heap[w.heap.size + 1]? := heap_alloc_old _ _ (by first | (simp; done) | (simp; omega))
  have h3 : (((w.alloc a).alloc b).alloc c).heap[w.heap.size + 1]? = ((w.alloc a).alloc b).heap[w.heap.size + 1]? := heap_alloc_old _ _ (by simp)
  exact h2.trans (h3.trans h1)
theorem at1 (w : World) (a b c d : Obj) : ((((w.alloc a).alloc b).alloc c).alloc d).drew.heap[w.heap.size]? = some a := by
  have h1 := heap_alloc_new w a
  have h2 : ((((w.alloc a).alloc b).alloc c).alloc d).heap[w.heap.size]? = (((w.alloc a).alloc b).alloc c).heap[w.heap.size]? := heap_alloc_old _ _ (by first | (simp; done) | (simp; omega))
  have h3 : (((w.alloc a).alloc b).alloc c).heap[w.heap.size]? = ((w.alloc a).alloc b).heap[w.heap.size]? := heap_alloc_old _ _ (by first | (simp; done) | (simp; omega))
  have h4 : ((w.alloc a).alloc b).heap[w.heap.size]? = (w.alloc a).heap[w.heap.size]? := heap_alloc_old _ _ (by simp)
  exact h2.trans (h3.trans (h4.trans h1))
theorem mk4 {w W : World} {M : Nat → Prop} {B N T gV gL gO : Nat} (up : ∀ c, w.heap.size ≤ c → M c) (mB : M B) (hB : w.rowIs B 4 1 (fun _ => .bool true)) (t : Turn (fun _ => False) w W)
    (hT : W.heap[T]? = some (.cells #[.slice (some ⟨gV, 0, none⟩) N N, .slice (some ⟨gL, 0, none⟩) N N, .slice (some ⟨gO, 0, none⟩) N N, .slice none 0 0, .slice none 0 0, .int .i64 0] 57))
    (hV : W.heap[gV]? = some (.cells (madeCells #[.int .i64 0] N) 3)) (hL : W.heap[gL]? = some (.cells (madeCells #[.int .i64 0] N) 3)) (hO : W.heap[gO]? = some (.cells (madeCells #[.bool false] N) 4))
    (oT : w.heap.size ≤ T) (oV : w.heap.size ≤ gV) (oL : w.heap.size ≤ gL) (oO : w.heap.size ≤ gO) (ne : gV ≠ gL) : Tw W M T gV gL gO B N none 0 none 0 s00 where
  o := ⟨_, hT, rfl, fun j hj => by rcases six hj with rfl | rfl | rfl | rfl | rfl | rfl <;> rfl⟩
  v := ⟨_, hV, by simp [madeCells], fun j hj => by simp [madeCells, hj, s00, Nat.mod_one]⟩
  l := ⟨_, hL, by simp [madeCells], fun j hj => by simp [madeCells, hj, s00, Nat.mod_one]⟩
  on := ⟨_, hO, by simp [madeCells], fun j hj => by simp [madeCells, hj, s00, Nat.mod_one]⟩
  b := t.row hB (fun y => y)
  st := .inl ⟨rfl, rfl, rfl⟩
  ca := .inl ⟨rfl, rfl, rfl⟩
  vl := ne
  ob := by have := hB.lt; omega
  sv := fun g e => by cases e
  mT := up _ oT
  mV := up _ oV
  mL := up _ oL
  mO := up _ oO
  mB := mB
  mS := fun g e => by cases e
  mC := fun g e => by cases e
set_option maxHeartbeats 8000000 in
set_option maxRecDepth 100000 in
theorem strong_any (M : Nat → Prop) (B V N : Nat) (gS cg : Nat) (sa : Nat → Option Addr) (deg sc : Nat → Nat) (arc : Nat → Nat → Nat) (w : World)
    (hB : w.rowIs B 4 1 (fun _ => .bool true)) (mB : M B) (up : ∀ c, w.heap.size ≤ c → M c) (hG : Gr w M gS N sa deg sc arc) (hg : ∀ v j, v < N → j < deg v → arc v j < N ∧ arc v j ≠ v) (hV : w.cell? ⟨V, 0, none⟩ = some (.func (.func 7) #[] #[.pointer (some ⟨B, 0, none⟩)])) (nV : ¬ M V) (hN : N ≤ 1000) (hdeg : ∀ v, v < N → deg v ≤ 1000000) :
    Calls Yba.prog 9 #[.slice (some ⟨gS, 0, none⟩) N cg, .func (.func 10) #[] #[.pointer (some ⟨V, 0, none⟩)]] w fun e w' => ∃ fl, e = .returned (.tuple #[]) ∧ Turn M w w' ∧ w'.rowIs B 4 1 (fun _ => .bool fl) ∧ (fl = true ↔ ∃ r : Nat → Nat, ∀ v j, v < N → j < deg v → r (arc v j) < r v) := by
  have HU : Hid (∀ c, w.heap.size ≤ c → M c) := up
  have HG : Hid (Gr w M gS N sa deg sc arc) := hG
  have Hg : Hid (∀ v j, v < N → j < deg v → arc v j < N ∧ arc v j ≠ v) := hg
  have HV : Hid (w.cell? ⟨V, 0, none⟩ = some (.func (.func 7) #[] #[.pointer (some ⟨B, 0, none⟩)])) := hV
  have HD : Hid (∀ v, v < N → deg v ≤ 1000000) := hdeg
  have HB : Hid (w.rowIs B 4 1 (fun _ => .bool true)) := hB
  have hm3 := run_make_row' (P := Yba.prog) 36 3 (.int .i64 0) 8 Yba.underlying36 info3 rfl .i64 .i64 N (by omega) (by omega)
  have hm4 := run_make_row' (P := Yba.prog) 33 4 (.bool false) 1 Yba.underlying33 info4 rfl .i64 .i64 N (by omega) (by omega)
  clear up hG hg hV hdeg hB
  go_enter Yba.func9, Yba.ntmps9
  go_upto_region 1 with fail
  go_cut [5] from 9 to 15 (fun s5 wx => ∃ T gV gL gO, s5 = .pointer (some ⟨T, 0, none⟩) ∧ Hid (Turn (fun _ => False) w wx) ∧ Hid (Tw wx M T gV gL gO B N none 0 none 0 s00))
  case first =>
    go_region
    all_goals
      go_wp2_with fail
      go_meet
      case rel =>
        exact ⟨_, _, _, _, rfl, ((((((Turn.refl (fun _ => False) w).alloc _).alloc _).alloc _).alloc _).drew), mk4 HU.out mB HB.out ((((((Turn.refl (fun _ => False) w).alloc _).alloc _).alloc _).alloc _).drew) (by first | exact at4 w _ _ _ _ | exact at3 w _ _ _ _ | exact at2 w _ _ _ _ | exact at1 w _ _ _ _) (by first | exact at4 w _ _ _ _ | exact at3 w _ _ _ _ | exact at2 w _ _ _ _ | exact at1 w _ _ _ _) (by first | exact at4 w _ _ _ _ | exact at3 w _ _ _ _ | exact at2 w _ _ _ _ | exact at1 w _ _ _ _) (by first | exact at4 w _ _ _ _ | exact at3 w _ _ _ _ | exact at2 w _ _ _ _ | exact at1 w _ _ _ _) (by omega) (by omega) (by omega) (by omega) (by omega)⟩
  case rest =>
    obtain ⟨T, gV, gL, gO, rfl, T1, H1⟩ := hcut
    obtain ⟨w1, hw1⟩ : ∃ w1 : World, w1 = wc := ⟨_, rfl⟩
    rw [← hw1] at T1 H1 ⊢
    clear hw1 hm3 hm4
    go_wp2_with fail
    go_loopg [17] N (fun gk i wr => ∃ (q : Nat) (s : TS) (aS : Option Addr) (cS : Nat) (aC : Option Addr) (cC : Nat), q ≤ N ∧ gk = N - q ∧ i = .int .i64 q ∧ Hid (Inv N deg arc s ∧ s.calls = [] ∧ s.stk = [] ∧ ∀ v, v < q → s.vis v ≠ 0) ∧ Hid (Turn M w wr) ∧ Hid (Tw wr M T gV gL gO B N aS cS aC cC s))
    case atStart => exact ⟨0, s00, none, 0, none, 0, Nat.zero_le _, rfl, rfl, ⟨Inv.start N deg arc, rfl, rfl, fun v hv => absurd hv (by omega)⟩, T1.out.mono (fun _ _ y => y.elim), H1⟩
    case round =>
      clear H1 T1
      obtain ⟨q, s, aS, cS, aC, cC, hq, hgk, rfl, HI, HT, HW⟩ := hrel
      by_cases hlt : q < N
      · have hd : decide ((q : Int) < (N : Int)) = true := by simp; omega
        have i0 : (0 : Int) ≤ (q : Int) := by omega
        have i1 : (q : Int) < (N : Int) := by omega
        have y0 : wr.cell? ⟨T, 0, none⟩ = some (.slice (some ⟨gV, 0, none⟩) N N) := HW.out.o.cell (by omega)
        have yv : wr.cell? ⟨gV, q, none⟩ = some (.int .i64 (s.vis q : Nat)) := HW.out.v.cell hlt
        by_cases h0 : s.vis q = 0
        · rw [h0] at yv
          have hwalk := walk_any M T gV gL gO B V N aS cS aC cC s gS cg sa deg sc arc q wr HW.out (fun c hc => HU.out c (Nat.le_trans HT.out.size hc)) (HG.out.turn HT.out) Hg.out (HT.out.cell HV.out nV) nV HI.out.1 HI.out.2.2.1 HI.out.2.1 hlt h0 hN HD.out
          go_wp2_with (go_at_call 11; refine hwalk.mono ?_; rintro e w2 ⟨aS2, cS2, aC2, cC2, s2, rfl, t2, h2, i2, c2, k2, m2, r2⟩)
          go_roundg (N - (q + 1))
          case measure => omega
          case rel =>
            refine ⟨q + 1, s2, aS2, cS2, aC2, cC2, by omega, rfl, val_int (by omega), ⟨i2, c2, k2, fun v hv => ?_⟩, HT.out.trans t2 (fun _ _ y => y), h2⟩
            by_cases e : v = q
            · rw [e]; exact r2
            · exact m2 v (HI.out.2.2.2 v (by omega))
        · have hv0 : ((s.vis q : Int) == 0) = false := by simp; omega
          have hv0' : decide ((s.vis q : Int) = 0) = false := by simp; omega
          have H0 : Hid (s.vis q ≠ 0) := h0
          clear h0
          go_wp2_with fail
          go_roundg (N - (q + 1))
          case measure => omega
          case rel =>
            refine ⟨q + 1, s, aS, cS, aC, cC, by omega, rfl, val_int (by omega), ⟨HI.out.1, HI.out.2.1, HI.out.2.2.1, fun v hv => ?_⟩, HT, HW⟩
            by_cases e : v = q
            · rw [e]; exact H0.out
            · exact HI.out.2.2.2 v (by omega)
      · have hd : decide ((q : Int) < (N : Int)) = false := by simp; omega
        go_wp2_with fail
        go_end0
        exact ⟨s.flag, rfl, HT.out, HW.out.b, HI.out.1.ends HI.out.2.2.1 (fun v hv => HI.out.2.2.2 v (by omega))⟩
theorem Gr.weak {w : World} {M M' : Nat → Prop} {gS N : Nat} {sa : Nat → Option Addr} {deg sc : Nat → Nat} {arc : Nat → Nat → Nat} (h : Gr w M gS N sa deg sc arc) (hM : ∀ c, M' c → M c) : Gr w M' gS N sa deg sc arc :=
  ⟨h.at_, h.rd, fun y => h.nS (hM _ y), fun v hv b o hd e y => h.nA v hv b o hd e (hM _ y)⟩
set_option maxHeartbeats 8000000 in
set_option maxRecDepth 100000 in
theorem cyc_any (B N : Nat) (gS cg : Nat) (sa : Nat → Option Addr) (deg sc : Nat → Nat) (arc : Nat → Nat → Nat) (w : World)
    (hB : w.rowIs B 4 1 (fun _ => .bool true)) (hG : Gr w (fun c => c = B ∨ w.heap.size ≤ c) gS N sa deg sc arc) (hg : ∀ v j, v < N → j < deg v → arc v j < N ∧ arc v j ≠ v) (hN : N ≤ 1000) (hdeg : ∀ v, v < N → deg v ≤ 1000000) :
    Calls Yba.prog 6 #[.slice (some ⟨gS, 0, none⟩) N cg, .func (.func 7) #[] #[.pointer (some ⟨B, 0, none⟩)]] w fun e w' => ∃ fl, e = .returned (.tuple #[]) ∧ Turn (fun c => c = B) w w' ∧ w'.rowIs B 4 1 (fun _ => .bool fl) ∧ (fl = true ↔ ∃ r : Nat → Nat, ∀ v j, v < N → j < deg v → r (arc v j) < r v) := by
  have t0 : Turn (fun _ => False) w (w.alloc (.cells #[.func (.func 7) #[] #[.pointer (some ⟨B, 0, none⟩)]] 51)) := (Turn.refl _ _).alloc _
  have hlt := hB.lt
  have hs := strong_any (fun c => c = B ∨ w.heap.size + 1 ≤ c) B w.heap.size N gS cg sa deg sc arc (w.alloc (.cells #[.func (.func 7) #[] #[.pointer (some ⟨B, 0, none⟩)]] 51)) (t0.row hB (fun y => y)) (.inl rfl) (fun c hc => .inr (by simpa using hc)) ((hG.turn (t0.mono (fun _ _ y => y.elim))).weak (fun c hc => by
    rcases hc with h | h
    · exact .inl h
    · exact .inr (by omega))) hg
    (by rw [cell_of_row _ _ _ _ _ _ (heap_alloc_new w _)]; rfl) (by rintro (h | h) <;> omega) hN hdeg
  have HT0 : Hid (Turn (fun _ => False) w (w.alloc (.cells #[.func (.func 7) #[] #[.pointer (some ⟨B, 0, none⟩)]] 51))) := t0
  clear t0 hB hG hg hdeg
  go_enter Yba.func6, Yba.ntmps6
  go_wp2_with (go_at_call 9; refine hs.mono ?_; rintro e w2 ⟨fl, rfl, t2, h2, i2⟩)
  go_end0
  refine ⟨fl, rfl, (HT0.out.mono (fun _ _ y => y.elim)).trans t2 (fun i hi y => ?_), h2, i2⟩
  rcases y with y | y
  · exact y
  · omega
end Go.Proofs.Ybulkegnm
