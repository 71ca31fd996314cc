import Derived.Test.YbulkegnmDoorW
import Derived.BigRegion
namespace Go.Proofs.YbulkegnmDoor
open Go Go.RowKit

/-- A reach between two searches (or before the first). -/
structure Sq (w : World) (M : Nat → Prop) (O : Nat) (a : Option Addr) (n sh cur used : Nat) (nd pl : Nat → Int) (st : Nat → Nat) (aN : Option Addr) (nN cN : Nat) (fN : Nat → Value) (aX : Option Addr) (nX cX : Nat) (fX : Nat → Value) (aA : Option Addr) (nA cA : Nat) (fA : Nat → Value) (vR vI : Value) : Prop where
  tq : Tq w O a n sh cur used nd pl st (.slice aN nN cN) (.slice aX nX cX) (.slice aA nA cA) vR vI
  sn : OwnI w 3 aN nN cN fN
  sx : OwnI w 26 aX nX cX fX
  sa : OwnI w 3 aA nA cA fA
  na : ∀ g, aA = some ⟨g, 0, none⟩ → aN ≠ some ⟨g, 0, none⟩
  mO : M O
  mS : ∀ g, a = some ⟨g, 0, none⟩ → M g
  mN : ∀ g, aN = some ⟨g, 0, none⟩ → M g
  mX : ∀ g, aX = some ⟨g, 0, none⟩ → M g
  mA : ∀ g, aA = some ⟨g, 0, none⟩ → M g
theorem Sr.sq {w : World} {M : Nat → Prop} {O S n k cur : Nat} {nd pl : Nat → Int} {st : Nat → Nat} {E : List (Int × Int)} {N A : List Int} {gN cN : Nat} {aX : Option Addr} {nX cX : Nat} {fX : Nat → Value} {aA : Option Addr} {cA : Nat} {R : Int} {b : Bool}
    (h : Sr w M O S n k cur nd pl st E N A gN cN aX nX cX fX aA cA R b) : Sq w M O (some ⟨S, 0, none⟩) n (64 - k) cur E.length nd pl st (some ⟨gN, 0, none⟩) N.length cN (fun i => .int .i64 (N.getD i 0)) aX nX cX fX aA A.length cA (fun i => .int .i64 (A.getD i 0)) (.int .i64 R) (.bool b) :=
  ⟨h.tb.tq, .inr ⟨gN, rfl, h.sn⟩, h.sx, h.sa, fun g e e2 => h.na g e (by cases e2; rfl), h.mO, fun g e => by cases e; exact h.mS, fun g e => by cases e; exact h.mN, h.mX, h.mA⟩
namespace Sq
variable {w w' : World} {M : Nat → Prop} {O : Nat} {a : Option Addr} {n sh cur used : Nat} {nd pl : Nat → Int} {st : Nat → Nat} {aN : Option Addr} {nN cN : Nat} {fN : Nat → Value} {aX : Option Addr} {nX cX : Nat} {fX : Nat → Value} {aA : Option Addr} {nA cA : Nat} {fA : Nat → Value} {vR vI : Value}
theorem notOwn (h : Sq w M O a n sh cur used nd pl st aN nN cN fN aX nX cX fX aA nA cA fA vR vI) {E : TypeId} {b : Option Addr} {m c : Nat} {f : Nat → Value} (hb : OwnI w E b m c f) (e1 : E ≠ 37) (e2 : E ≠ 47) : ∀ g, b = some ⟨g, 0, none⟩ → ¬ own O a g := by
  intro g e y
  rcases y with y | y
  · exact hb.ne h.tq.o e1 g e y
  · rcases h.tq.s with ⟨e3, _⟩ | ⟨S, k, e3, hs, _⟩
    · rw [e3] at y; cases y
    · rw [e3] at y; cases y; exact hb.ne hs e2 _ e rfl
theorem ownM (h : Sq w M O a n sh cur used nd pl st aN nN cN fN aX nX cX fX aA nA cA fA vR vI) : ∀ c, own O a c → M c := by
  intro c y
  rcases y with y | y
  · rw [y]; exact h.mO
  · exact h.mS c y
end Sq
theorem OwnI.zero {w : World} {E : TypeId} {a : Option Addr} {n cap : Nat} {f : Nat → Value} (h : OwnI w E a n cap f) : OwnI w E a 0 cap f := by
  rcases h with ⟨e1, _, e2⟩ | ⟨g, e1, hs⟩
  · exact .inl ⟨e1, rfl, e2⟩
  · obtain ⟨h1, h2, cur, hb, h3, h4⟩ := hs
    exact .inr ⟨g, e1, Nat.zero_le _, h2, cur, hb, h3, fun i hi => absurd hi (by omega)⟩
theorem e26 : Ybad.prog.elem 26 = 3 := by kernel_rfl
theorem e35 : Ybad.prog.elem 35 = 26 := by kernel_rfl
theorem slice0_26 {w : World} {a : Option Addr} {n cap : Nat} {f : Nat → Value} (h : OwnI w 3 a n cap f) (W : World) : (Instr.slice 26 (.slice a n cap) none (some (.int .i64 0)) none).run Ybad.prog W = .ok (.slice a 0 cap) W := by
  obtain ⟨i0, i1, i2, i3, i4⟩ := info_parts info3
  rw [run_slice_h W 26 a n cap Ybad.underlying26 .i64 0 (Int.le_refl _) (by omega)]
  rcases h with ⟨rfl, rfl, rfl⟩ | ⟨g, rfl, hs⟩
  · simp [sizeOf, typeInfo, e26, i1, i3, sliced]
  · simp [sizeOf, typeInfo, e26, i1, i3, sliced, Addr.add]
theorem slice0_35 {w : World} {a : Option Addr} {n cap : Nat} {f : Nat → Value} (h : OwnI w 26 a n cap f) (W : World) : (Instr.slice 35 (.slice a n cap) none (some (.int .i64 0)) none).run Ybad.prog W = .ok (.slice a 0 cap) W := by
  obtain ⟨i0, i1, i2, i3, i4⟩ := info_parts info26
  rw [run_slice_h W 35 a n cap Ybad.underlying35 .i64 0 (Int.le_refl _) (by omega)]
  rcases h with ⟨rfl, rfl, rfl⟩ | ⟨g, rfl, hs⟩
  · simp [sizeOf, typeInfo, e35, i1, i3, sliced]
  · simp [sizeOf, typeInfo, e35, i1, i3, sliced, Addr.add]

set_option maxHeartbeats 2000000 in
set_option maxRecDepth 100000 in
theorem start_any (M : Nat → Prop) (O : Nat) (a : Option Addr) (n sh cur used : Nat) (nd pl : Nat → Int) (st : Nat → Nat) (aN : Option Addr) (nN cN : Nat) (fN : Nat → Value) (aX : Option Addr) (nX cX : Nat) (fX : Nat → Value) (aA : Option Addr) (nA cA : Nat) (fA : Nat → Value) (vR vI : Value) (root : Int) (aW : Option Addr) (lw cw : Nat) (z : Nat → Int) (w : World)
    (h : Sq w M O a n sh cur used nd pl st aN nN cN fN aX nX cX fX aA nA cA fA vR vI) (up : ∀ c, w.heap.size ≤ c → M c)
    (hW : 0 < lw → ∃ bW oW, aW = some ⟨bW, oW, none⟩ ∧ ¬ M bW ∧ ∀ j, j < lw → w.cell? ⟨bW, oW + j, none⟩ = some (.int .i64 (z j))) (hz : TzOk w) (h8 : ¬ M 8) (b1 : lw ≤ 4500) :
    Calls Ybad.prog 11 #[.pointer (some ⟨O, 0, none⟩), .int .i64 root, .slice aW lw cw] w fun e w' => ∃ S' n' k' nd' pl' st' gN' cN' gX' cX' fX' aA' cA', e = .returned (.tuple #[]) ∧ Turn M w w' ∧
      Sr w' M O S' n' k' (nxt cur) nd' pl' st' (enumE (NN [root] z lw)) (NN [root] z lw) (PP [root] z lw) gN' cN' (some ⟨gX', 0, none⟩) 1 cX' fX' aA' cA' ((1 + lw : Nat) : Int) ((PP [root] z lw).any (· == 0)) ∧ fX' 0 = .slice aA' lw lw := by
  obtain ⟨i0, i1, i2, i3, i4⟩ := info_parts info3
  have hO8 : O ≠ 8 := fun e => h8 (e ▸ h.mO)
  have HH : Hid (Sq w M O a n sh cur used nd pl st aN nN cN fN aX nX cX fX aA nA cA fA vR vI) := h
  have HU : Hid (∀ c, w.heap.size ≤ c → M c) := up
  have HW : Hid (0 < lw → ∃ bW oW, aW = some ⟨bW, oW, none⟩ ∧ ¬ M bW ∧ ∀ j, j < lw → w.cell? ⟨bW, oW + j, none⟩ = some (.int .i64 (z j))) := hW
  have HZ : Hid (TzOk w) := hz
  have hre := reset_any O a n sh cur used nd pl st _ _ _ vR vI w h.tq
  have hs4 := fun W => slice0_26 h.sn W
  have hs5 := fun W => slice0_35 h.sx W
  have hs6 := fun W => slice0_26 h.sa W
  clear h up hW hz
  go_enter Ybad.func11, Ybad.ntmps11
  go_upto_region 1 with (go_at_call 19; refine hre.mono ?_; rintro e w1 ⟨nd1, pl1, st1, rfl, t1, hq1, hf1, hc1⟩)
  have hpf := place_first O a n sh (nxt cur) nd1 pl1 st1 _ _ _ vR vI root w1 hq1 hf1 hc1 (HZ.out.turn t1 (fun y => h8 (HH.out.ownM 8 y))) hO8
  have T1 : Turn M w w1 := t1.mono (fun c _ y => HH.out.ownM c y)
  clear hre
  go_upto_region 2 with (go_at_call 20; refine hpf.mono ?_; rintro e w2 ⟨S2, n2, k2, nd2, pl2, st2, rfl, t2, hB2, hS2⟩)
  have T2 : Turn (own O a) w w2 := t1.trans t2 (fun _ _ y => y)
  have xn : OwnI w2 3 aN nN cN fN := HH.out.sn.turn T2 (HH.out.notOwn HH.out.sn (by decide) (by decide))
  have xx : OwnI w2 26 aX nX cX fX := HH.out.sx.turn T2 (HH.out.notOwn HH.out.sx (by decide) (by decide))
  have xa : OwnI w2 3 aA nA cA fA := HH.out.sa.turn T2 (HH.out.notOwn HH.out.sa (by decide) (by decide))
  have TM2 : Turn M w w2 := T2.mono (fun c _ y => HH.out.ownM c y)
  have mS2 : M S2 := by
    rcases hS2 with e | e
    · exact HH.out.mS S2 e
    · exact HU.out _ (Nat.le_trans t1.size e)
  have ta : Turn (fun _ => False) w2 (w2.alloc (.cells #[.int .i64 root] 3)) := (Turn.refl _ _).alloc _
  have HNa : Hid (OwnI (w2.alloc (.cells #[.int .i64 root] 3)) 3 aN 0 cN fN) := (xn.turn ta (fun _ _ y => y)).zero
  have y4 : w2.cell? ⟨O, 4, none⟩ = some (.slice aN nN cN) := hB2.o.cell (by omega)
  have y4a : (w2.alloc (.cells #[.int .i64 root] 3)).cell? ⟨O, 4, none⟩ = some (.slice aN nN cN) := ta.cell y4 (fun y => y)
  have nO : ¬ (aN = some ⟨O, 0, none⟩) := fun e => xn.ne hB2.o (by decide) O e rfl
  have nS : ¬ (aN = some ⟨S2, 0, none⟩) := fun e => xn.ne hB2.s (by decide) S2 e rfl
  have lO := hB2.o.lt
  have lOa : O < (w2.alloc (.cells #[.int .i64 root] 3)).heap.size := by simp; omega
  have hfo : ∀ j, (w2.alloc (.cells #[.int .i64 root] 3)).frozen? ⟨O, j, none⟩ = false := fun j => (hB2.o.alloc _).frozen j
  have m1 : 0 + 1 ≤ maxLen := by unfold maxLen; omega
  have HB2 : Hid (Tb w2 O S2 n2 k2 (nxt cur) nd2 pl2 st2 (enumE [root]) (.slice aN nN cN) (.slice aX nX cX) (.slice aA nA cA) vR vI) := hB2
  clear hpf hq1 hf1 hB2 hS2 t2
  go_upto_region 3 with (at_builtin; refine wpList_append_ow _ rfl (.tmp 20) (.tmp 22) 26 rfl 3 i0 (.int .i64 0) 8 Ybad.underlying26 i1 i2 i3 i4 rfl aN 0 cN fN rfl HNa.out w2.heap.size 0 1 1 (fun _ => .int .i64 root) rfl (new_one _ _ _) (fun _ _ => rfl) (by omega) m1 (by omega) (w2.heap.size + 1) (by simp) ?_; intro gN cN' w3 s3 t3 l3; have y4b := t3.cell y4a nO; have f3 : ∀ j, w3.frozen? ⟨O, j, none⟩ = false := fun j => (t3.frozen (p := ⟨O, j, none⟩) lOa nO).trans (hfo j))
  have t3' : Turn (fun c => aN = some ⟨c, 0, none⟩) w2 w3 := (ta.mono (fun _ _ y => y.elim)).trans t3 (fun _ _ y => y)
  have hMg : M gN := by
    rcases l3 with e | e
    · exact HH.out.mN gN e
    · exact HU.out _ (by have := TM2.size; omega)
  have o3 := t3'.row HB2.out.o nO
  have s3' := t3'.row HB2.out.s nS
  have x3 : OwnI w3 26 aX nX cX fX := xx.turn t3' (fun g e y => by
    rcases xx with ⟨e2, _, _⟩ | ⟨g2, e2, hs2⟩
    · rw [e2] at e; cases e
    · rw [e2] at e; cases e
      rcases xn with ⟨e3, _, _⟩ | ⟨g3, e3, hs3⟩
      · rw [e3] at y; cases y
      · rw [e3] at y; cases y; exact sl_sl_ne hs2 hs3 (by decide) rfl)
  have a3 : OwnI w3 3 aA nA cA fA := xa.turn t3' (fun g e y => HH.out.na g e y)
  have na3 : ∀ g, aA = some ⟨g, 0, none⟩ → g ≠ gN := by
    intro g e
    rcases l3 with e2 | e2
    · intro e3; rw [← e3] at e2; exact HH.out.na g e e2
    · have := xa.lt g e; omega
  have t4 : Turn (fun c => c = O) w3 (w3.setCell ⟨O, 4, none⟩ (.slice (some ⟨gN, 0, none⟩) (0 + 1) cN')) := (Turn.refl (fun c => c = O) _).setCell (p := ⟨O, 4, none⟩) (.inr rfl) _
  have o4 := re_v4 o3 (.slice (some ⟨gN, 0, none⟩) (0 + 1) cN')
  have TM4 : Turn M w (w3.setCell ⟨O, 4, none⟩ (.slice (some ⟨gN, 0, none⟩) (0 + 1) cN')) := (TM2.trans t3' (fun c _ y => HH.out.mN c y)).trans t4 (fun c _ y => by rw [y]; exact HH.out.mO)
  have s4 := t4.row s3' (fun e => row_ne o3 s3' (by decide) e.symm)
  have n4 := s3.turn t4 (fun e => sl_ne s3 o3 (by decide) e)
  have x4 := x3.turn t4 (fun g e y => x3.ne o3 (by decide) g e y)
  have a4 := a3.turn t4 (fun g e y => a3.ne o3 (by decide) g e y)
  simp only [Nat.zero_add] at o4 TM4 s4 n4 x4 a4 t4
  generalize w3.setCell ⟨O, 4, none⟩ (.slice (some ⟨gN, 0, none⟩) 1 cN') = w4 at o4 TM4 s4 n4 x4 a4 ⊢
  have z5 : w4.cell? ⟨O, 5, none⟩ = some (.slice aX nX cX) := o4.cell (by omega)
  have z6 : w4.cell? ⟨O, 6, none⟩ = some (.slice aA nA cA) := o4.cell (by omega)
  have f4 : ∀ j, w4.frozen? ⟨O, j, none⟩ = false := fun j => o4.frozen j
  have O4 : Hid (w4.rowIs O 37 9 (reF (.slice (some ⟨S2, 0, none⟩) n2 n2) (64 - k2) (nxt cur) (enumE [root]).length (.slice (some ⟨gN, 0, none⟩) 1 cN') (.slice aX nX cX) (.slice aA nA cA) vR vI)) := o4
  clear o4 o3 s3' x3 a3 s3 t3 t3' t4 y4 y4a y4b f3 hfo l3 ta HNa xn xx xa nO nS lO lOa hs4
  go_cut [] from 26 to 41 (fun wx => wx = ((w4.setCell ⟨O, 5, none⟩ (.slice aX 0 cX)).setCell ⟨O, 6, none⟩ (.slice aA 0 cA)).drew)
  case first =>
    go_region
    all_goals
      go_wp2
      go_meet
      case rel => rfl
  case rest =>
    have t5 : Turn (fun c => c = O) w4 ((w4.setCell ⟨O, 5, none⟩ (.slice aX 0 cX)).setCell ⟨O, 6, none⟩ (.slice aA 0 cA)).drew := (((Turn.refl (fun c => c = O) w4).setCell (p := ⟨O, 5, none⟩) (.inr rfl) _).setCell (p := ⟨O, 6, none⟩) (.inr rfl) _).drew
    have o5 : ((w4.setCell ⟨O, 5, none⟩ (.slice aX 0 cX)).setCell ⟨O, 6, none⟩ (.slice aA 0 cA)).drew.rowIs O 37 9 (reF (.slice (some ⟨S2, 0, none⟩) n2 n2) (64 - k2) (nxt cur) (enumE [root]).length (.slice (some ⟨gN, 0, none⟩) 1 cN') (.slice aX 0 cX) (.slice aA 0 cA) vR vI) := re_v6 (re_v5 O4.out _) _
    rw [← hcut] at t5 o5
    have z7 : wc.cell? ⟨O, 7, none⟩ = some vR := o5.cell (by omega)
    have z8 : wc.cell? ⟨O, 8, none⟩ = some vI := o5.cell (by omega)
    have f5 : ∀ j, wc.frozen? ⟨O, j, none⟩ = false := fun j => o5.frozen j
    have O5 : Hid (wc.rowIs O 37 9 (reF (.slice (some ⟨S2, 0, none⟩) n2 n2) (64 - k2) (nxt cur) (enumE [root]).length (.slice (some ⟨gN, 0, none⟩) 1 cN') (.slice aX 0 cX) (.slice aA 0 cA) vR vI)) := o5
    clear hcut o5 z5 z6 f4
    go_upto_region 5 with fail
    have o6 : ((wc.setCell ⟨O, 7, none⟩ (.int .i64 ((0 : Nat) : Int))).setCell ⟨O, 8, none⟩ (.bool false)).rowIs O 37 9 (reF (.slice (some ⟨S2, 0, none⟩) n2 n2) (64 - k2) (nxt cur) (enumE [root]).length (.slice (some ⟨gN, 0, none⟩) 1 cN') (.slice aX 0 cX) (.slice aA 0 cA) (.int .i64 ((0 : Nat) : Int)) (.bool false)) := re_v8 (re_v7 O5.out _) _
    have t6 : Turn (fun c => c = O) w4 ((wc.setCell ⟨O, 7, none⟩ (.int .i64 ((0 : Nat) : Int))).setCell ⟨O, 8, none⟩ (.bool false)) := (t5.setCell (p := ⟨O, 7, none⟩) (.inr rfl) _).setCell (p := ⟨O, 8, none⟩) (.inr rfl) _
    have ez : ((0 : Nat) : Int) = 0 := rfl
    rw [ez] at o6 t6
    generalize (wc.setCell ⟨O, 7, none⟩ (.int .i64 0)).setCell ⟨O, 8, none⟩ (.bool false) = w6 at o6 t6 ⊢
    have TM6 : Turn M w w6 := TM4.trans t6 (fun c _ y => by rw [y]; exact HH.out.mO)
    have hSr : Sr w6 M O S2 n2 k2 (nxt cur) nd2 pl2 st2 (enumE [root]) [root] [] gN cN' aX 0 cX fX aA cA ((0 : Nat) : Int) false := by
      refine ⟨⟨o6, t6.row s4 (fun e => row_ne O4.out s4 (by decide) e.symm), HB2.out.nk, HB2.out.k4, HB2.out.k15, HB2.out.inv, HB2.out.le, HB2.out.c0, HB2.out.c1, HB2.out.half⟩, ?_, ?_, ?_, na3, HH.out.mO, mS2, hMg, HH.out.mX, HH.out.mA⟩
      · refine (n4.turn t6 (fun e => sl_ne n4 O4.out (by decide) e)).congr (fun i hi => ?_)
        obtain rfl : i = 0 := by omega
        rfl
      · exact (x4.turn t6 (fun g e y => x4.ne O4.out (by decide) g e y)).zero
      · have h1 := (a4.turn t6 (fun g e y => a4.ne O4.out (by decide) g e y)).zero
        rcases h1 with h1 | ⟨g, e, h1⟩
        · exact .inl h1
        · exact .inr ⟨g, e, h1.congr (fun i hi => absurd hi (by omega))⟩
    have hadd := add_any M O S2 n2 k2 (nxt cur) nd2 pl2 st2 [root] [] gN cN' aX 0 cX fX aA cA 0 false aW lw cw z w6 hSr (by simp) (fun c hc => HU.out c (Nat.le_trans TM6.size hc)) (fun hl => by
      obtain ⟨bW, oW, e, hM, hc⟩ := HW.out hl
      exact ⟨bW, oW, e, hM, fun j hj => TM6.cell (hc j hj) hM⟩) (HZ.out.turn TM6 h8) h8 (by simp; omega) (by simp; omega) (by omega) (by omega)
    clear hSr o6 t6 O5 O4 t5 z7 z8 f5 s4 n4 x4 a4
    go_wp2_with (go_at_call 17; refine hadd.mono ?_; rintro e w7 ⟨S', n', k', nd', pl', st', gN', cN2, gX', cX', fX', aA', cA', rfl, t7, h7, h8'⟩)
    go_end0
    have h7' : Sr w7 M O S' n' k' (nxt cur) nd' pl' st' (enumE (NN [root] z lw)) (NN [root] z lw) (PP [root] z lw) gN' cN2 (some ⟨gX', 0, none⟩) 1 cX' fX' aA' cA' ((1 + lw : Nat) : Int) ((PP [root] z lw).any (· == 0)) := by
      have := h7
      simp only [List.nil_append, Nat.zero_add, Bool.false_or] at this
      exact this
    have h9 : fX' 0 = .slice aA' lw lw := by first | exact h8' rfl | exact h8' trivial | exact h8'
    exact ⟨S', n', k', nd', pl', st', gN', cN2, gX', cX', fX', aA', cA', rfl, TM6.trans t7 (fun _ _ y => y), h7', h9⟩
end Go.Proofs.YbulkegnmDoor
