import Derived.Test.YbulkegnmDoorS
import Derived.Deep.RegionLaw
namespace Go.Proofs.YbulkegnmDoor
open Go Go.RowKit

/-- The nodes behind the first m arcs of z; their places. -/
def NN (N : List Int) (z : Nat → Int) : Nat → List Int
  | 0 => N
  | m + 1 => addNode (NN N z m) (z m)
def PP (N : List Int) (z : Nat → Int) : Nat → List Int
  | 0 => []
  | m + 1 => PP N z m ++ [(placeIn (NN N z m) (z m) : Int)]
theorem PP_length (N : List Int) (z : Nat → Int) : ∀ m, (PP N z m).length = m
  | 0 => rfl
  | m + 1 => by rw [PP, List.length_append, PP_length N z m]; rfl
theorem NN_length (N : List Int) (z : Nat → Int) : ∀ m, (NN N z m).length ≤ N.length + m
  | 0 => Nat.le_refl _
  | m + 1 => by
    have := NN_length N z m
    rw [NN, addNode]
    split
    · omega
    · rw [List.length_append]; simp; omega
theorem NN_nodup {N : List Int} (h : N.Nodup) (z : Nat → Int) : ∀ m, (NN N z m).Nodup
  | 0 => h
  | m + 1 => by
    have := NN_nodup h z m
    rw [NN, addNode]
    split
    · exact this
    · next hx =>
      rw [List.nodup_append]
      refine ⟨this, by simp, fun a ha b hb e => ?_⟩
      simp at hb
      rw [e, hb] at ha
      exact hx ha
theorem NN_pos {N : List Int} (h : 0 < N.length) (z : Nat → Int) : ∀ m, 0 < (NN N z m).length
  | 0 => h
  | m + 1 => by
    have := NN_pos h z m
    rw [NN, addNode]
    split
    · exact this
    · rw [List.length_append]; omega
theorem new_one (w : World) (u : Value) (E : TypeId) : ∀ j, j < 1 → (w.alloc (.cells #[u] E)).cell? ⟨w.heap.size, 0 + j, none⟩ = some u := by
  intro j hj
  obtain rfl : j = 0 := by omega
  rw [cell_of_row _ _ _ _ _ _ (heap_alloc_new w _)]
  rfl
theorem getD_push (L : List Int) (x : Int) (i : Nat) (hi : i < L.length + 1) : (if i < L.length then Value.int .i64 (L.getD i 0) else .int .i64 x) = .int .i64 ((L ++ [x]).getD i 0) := by
  by_cases h : i < L.length
  · rw [if_pos h]; simp [List.getD_eq_getElem?_getD, List.getElem?_append_left h]
  · rw [if_neg h]
    obtain rfl : i = L.length := by omega
    simp [List.getD_eq_getElem?_getD]
theorem info3 : (Ybad.prog.info? 3).map (fun i => (i.zero, i.size, i.bytes)) = some (some (.int .i64 0), 1, 8) := by kernel_rfl
theorem info26 : (Ybad.prog.info? 26).map (fun i => (i.zero, i.size, i.bytes)) = some (some (.slice none 0 0), 1, 24) := by kernel_rfl

attribute [local go_sem ↓] Go.wp_at_zero Go.wp_at_succ
set_option maxHeartbeats 20000000 in
set_option maxRecDepth 100000 in
theorem add_any (M : Nat → Prop) (O S n k cur : Nat) (nd pl : Nat → Int) (st : Nat → Nat) (N A : List Int) (gN cN : Nat) (aX : Option Addr) (nX cX : Nat) (fX : Nat → Value) (aA : Option Addr) (cA : Nat) (R : Nat) (b : Bool) (aW : Option Addr) (lw cw : Nat) (z : Nat → Int) (w : World)
    (h : Sr w M O S n k cur nd pl st (enumE N) N A gN cN aX nX cX fX aA cA R b) (hnod : N.Nodup) (up : ∀ c, w.heap.size ≤ c → M c)
    (hW : 0 < lw → ∃ bW oW, aW = some ⟨bW, oW, none⟩ ∧ ¬ M bW ∧ ∀ j, j < lw → w.cell? ⟨bW, oW + j, none⟩ = some (.int .i64 (z j))) (hz : TzOk w) (h8 : ¬ M 8)
    (b1 : N.length + lw ≤ 5000) (b2 : A.length + lw ≤ 100000) (b3 : nX ≤ 100000) (b4 : R ≤ 1000000) :
    Calls Ybad.prog 17 #[.pointer (some ⟨O, 0, none⟩), .slice aW lw cw] w fun e w' => ∃ S' n' k' nd' pl' st' gN' cN' gX' cX' fX' aA' cA', e = .returned (.tuple #[]) ∧ Turn M w w' ∧
      Sr w' M O S' n' k' cur nd' pl' st' (enumE (NN N z lw)) (NN N z lw) (A ++ PP N z lw) gN' cN' (some ⟨gX', 0, none⟩) (nX + 1) cX' fX' aA' cA' ((R + (1 + lw) : Nat) : Int) (b || (PP N z lw).any (· == 0)) ∧ (A = [] → fX' nX = .slice aA' lw lw) := by
  obtain ⟨i0, i1, i2, i3, i4⟩ := info_parts info3
  have x6 : w.cell? ⟨O, 6, none⟩ = some (.slice aA A.length cA) := h.tb.o.cell (by omega)
  have HH : Hid (Sr w M O S n k cur nd pl st (enumE N) N A gN cN aX nX cX fX aA cA R b) := h
  have HU : Hid (∀ c, w.heap.size ≤ c → M c) := up
  have HW : Hid (0 < lw → ∃ bW oW, aW = some ⟨bW, oW, none⟩ ∧ ¬ M bW ∧ ∀ j, j < lw → w.cell? ⟨bW, oW + j, none⟩ = some (.int .i64 (z j))) := hW
  have HZ : Hid (TzOk w) := hz
  have HN : Hid (N.Nodup) := hnod
  obtain ⟨lA, hlA⟩ : ∃ lA, lA = A.length := ⟨_, rfl⟩
  rw [← hlA] at x6 b2
  have HlA : Hid (lA = A.length) := hlA
  clear h up hW hz hnod hlA
  go_enter Ybad.func17, Ybad.ntmps17
  go_wp2
  go_loopg [16] lw (fun gk s16 wr => ∃ m : Nat, m ≤ lw ∧ gk = lw - m ∧ s16 = .int .i64 m ∧ Turn M w wr ∧ ∃ S n k nd pl st gN cN aA cA, Sr wr M O S n k cur nd pl st (enumE (NN N z m)) (NN N z m) (A ++ PP N z m) gN cN aX nX cX fX aA cA R (b || (PP N z m).any (· == 0)))
  case atStart =>
    refine ⟨0, by omega, rfl, rfl, Turn.refl _ _, S, n, k, nd, pl, st, gN, cN, aA, cA, ?_⟩
    simpa [NN, PP] using HH.out
  case round =>
    obtain ⟨m, hmn, hgk, rfl, hT, S, n, k, nd, pl, st, gN, cN, aA, cA, hS⟩ := hrel
    by_cases hlt : m < lw
    · obtain ⟨bW, oW, rfl, hbM, hcW⟩ := HW.out (by omega)
      have zc : wr.cell? ⟨bW, oW + m, none⟩ = some (.int .i64 (z m)) := hT.cell (hcW m hlt) hbM
      have j0 : (0 : Int) ≤ (m : Int) := by omega
      have j1 : (m : Int) < (lw : Int) := by omega
      have bn := NN_length N z m
      have hnod := NN_nodup HN.out z m
      have bp : (A ++ PP N z m).length = lA + m := by rw [List.length_append, PP_length, HlA.out]
      obtain ⟨N1, hN1⟩ : ∃ N1, N1 = NN N z m := ⟨_, rfl⟩
      obtain ⟨A1, hA1⟩ : ∃ A1, A1 = A ++ PP N z m := ⟨_, rfl⟩
      obtain ⟨c1, hc1⟩ : ∃ c1, c1 = (b || (PP N z m).any (· == 0)) := ⟨_, rfl⟩
      rw [← hN1] at bn hnod hS
      rw [← hA1] at hS bp
      rw [← hc1] at hS
      have H1 : Hid (Sr wr M O S n k cur nd pl st (enumE N1) N1 A1 gN cN aX nX cX fX aA cA R c1) := hS
      have G1 : Hid (N1 = NN N z m ∧ A1 = A ++ PP N z m ∧ c1 = (b || (PP N z m).any (· == 0))) := ⟨hN1, hA1, hc1⟩
      have D1 : Hid (N1.Nodup) := hnod
      have x4 : wr.cell? ⟨O, 4, none⟩ = some (.slice (some ⟨gN, 0, none⟩) N1.length cN) := hS.tb.o.cell (by omega)
      have hZ : TzOk wr := HZ.out.turn hT h8
      have hO8 : O ≠ 8 := fun e => h8 (e ▸ hS.mO)
      have hpl := fun W (t : Turn (fun _ => False) wr W) => place_any O S n k cur nd pl st (enumE N1) (.slice (some ⟨gN, 0, none⟩) N1.length cN) (.slice aX nX cX) (.slice aA A1.length cA) (.int .i64 R) (.bool c1) (z m) (N1.length : Nat) W (hS.tb.turn t (fun y => y) (fun y => y)) (by rw [enumE_length]; omega) (hZ.turn t (fun y => y)) hO8
      have hnl : N1.length ≤ 5000 := by omega
      have hal : A1.length ≤ 100000 := by omega
      clear bp bn
      clear hcW hS hN1 hA1 hc1 hnod
      go_upto_region 4 with fail
      go_region_held3 (fun w' => w'.cell? ⟨O, 4, none⟩ = some (.slice (some ⟨gN, 0, none⟩) N1.length cN)) (first | exact x4 | exact hB4.o.cell (by omega) | go_keep) (first | (go_at_call 20; refine (hpl _ (Turn.refl _ _).drew).mono ?_; rintro e w4 ⟨S4, n4, k4, nd4, pl4, st4, E4, q, sn, rfl, t4, hB4, hR, hS4⟩))
      have t4' : Turn (fun c => c = O ∨ c = S) wr w4 := ((Turn.refl (fun c => c = O ∨ c = S) wr).drew).trans t4 (fun _ _ y => y)
      have mS4 : M S4 := by
        rcases hS4 with e | e
        · rw [e]; exact H1.out.mS
        · exact HU.out _ (Nat.le_trans hT.size e)
      have H4 : Hid (Sr w4 M O S4 n4 k4 cur nd4 pl4 st4 E4 N1 A1 gN cN aX nX cX fX aA cA R c1) := H1.out.place t4' hB4 mS4
      have T4 : Turn M w w4 := hT.trans t4' (fun c _ y => by rcases y with y | y; rw [y]; exact H1.out.mO; rw [y]; exact H1.out.mS)
      have hq : q = (placeIn N1 (z m) : Int) := by
        rcases hR with ⟨_, hm, _⟩ | ⟨_, hp, hno, _⟩
        · exact (placeIn_seen D1.out hm).2
        · rw [hp, (placeIn_new hno).2]
      subst hq
      obtain ⟨p, hp⟩ : ∃ p, p = placeIn N1 (z m) := ⟨_, rfl⟩
      have HP : Hid (p = placeIn N1 (z m)) := hp
      rw [← hp] at hR ⊢
      clear x4 hB4 t4 hS4 zc hpl t4' hp
      go_upto_if 34 with fail
      go_cut [] from 35 to 44 (fun wx => Turn M w wx ∧ ∃ gN2 cN2, Sr wx M O S4 n4 k4 cur nd4 pl4 st4 (enumE (addNode N1 (z m))) (addNode N1 (z m)) A1 gN2 cN2 aX nX cX fX aA cA R c1)
      case first =>
        rcases hR with ⟨rfl, hm, hE⟩ | ⟨rfl, -, hno, hE⟩
        · go_wp2
          go_meet
          case rel =>
            refine ⟨T4, gN, cN, ?_⟩
            have hm2 := placeIn_seen D1.out hm
            rw [addNode, if_pos hm2.1, ← hE]
            exact H4.out
        · have H5 : Hid (Sr (w4.alloc (.cells #[.int .i64 (z m)] 3)) M O S4 n4 k4 cur nd4 pl4 st4 E4 N1 A1 gN cN aX nX cX fX aA cA R c1) := H4.out.turn ((Turn.refl _ _).alloc _)
          have T5 : Turn M w (w4.alloc (.cells #[.int .i64 (z m)] 3)) := T4.alloc _
          have y4 : w4.cell? ⟨O, 4, none⟩ = some (.slice (some ⟨gN, 0, none⟩) N1.length cN) := H4.out.tb.o.cell (by omega)
          have y4a : (w4.alloc (.cells #[.int .i64 (z m)] 3)).cell? ⟨O, 4, none⟩ = some (.slice (some ⟨gN, 0, none⟩) N1.length cN) := H5.out.tb.o.cell (by omega)
          have nO : O ≠ gN := fun e => sl_ne H4.out.sn H4.out.tb.o (by decide) e.symm
          have HS5 : Hid (SlI (w4.alloc (.cells #[.int .i64 (z m)] 3)) 3 gN N1.length cN (fun i => .int .i64 (N1.getD i 0))) := H5.out.sn
          have m1 : N1.length + 1 ≤ maxLen := by unfold maxLen; omega
          have hfo : ∀ j, (w4.alloc (.cells #[.int .i64 (z m)] 3)).frozen? ⟨O, j, none⟩ = false := fun j => H5.out.tb.o.frozen j
          have lO := H5.out.tb.o.lt
          go_wp2_with (at_builtin; refine wpList_append_sl _ rfl (.tmp 39) (.tmp 41) 26 rfl 3 i0 (.int .i64 0) 8 Ybad.underlying26 i1 i2 i3 i4 rfl gN N1.length cN (fun i => .int .i64 (N1.getD i 0)) rfl HS5.out w4.heap.size 0 1 1 (fun _ => .int .i64 (z m)) rfl (new_one _ _ _) (fun _ _ => rfl) m1 (by omega) (w4.heap.size + 1) (by simp) ?_; intro g' c' w5 s5 t5 l5; have y5 := t5.cell y4a nO; have f5 : ∀ j, w5.frozen? ⟨O, j, none⟩ = false := fun j => (t5.frozen (p := ⟨O, j, none⟩) lO nO).trans (hfo j))
          go_meet
          case rel =>
            have hn2 := placeIn_new hno
            have hlg : g' = gN ∨ (w4.alloc (.cells #[.int .i64 (z m)] 3)).heap.size ≤ g' := by
              rcases l5 with e | e
              · exact .inl e
              · right; rw [e]; simp
            have hMg : M g' := by
              rcases l5 with e | e
              · rw [e]; exact H4.out.mN
              · exact HU.out _ (by have := T4.size; omega)
            have T6 : Turn M w w5 := T5.trans t5 (fun c _ y => by rw [y]; exact H4.out.mN)
            refine ⟨T6.setCell (p := ⟨O, 4, none⟩) (.inr H4.out.mO) _, g', c', ?_⟩
            have := H5.out.pushN t5 (z m) s5 (fun i hi => getD_push N1 (z m) i hi) hlg hMg
            rw [addNode, if_neg hn2.1, enumE_append, ← hE]
            exact this
      case rest =>
        obtain ⟨T5, gN2, cN2, hS5⟩ := hcut
        have H5 : Hid (Sr wc M O S4 n4 k4 cur nd4 pl4 st4 (enumE (addNode N1 (z m))) (addNode N1 (z m)) A1 gN2 cN2 aX nX cX fX aA cA R c1) := hS5
        have H6 : Hid (Sr (wc.alloc (.cells #[.int .i64 (p : Int)] 3)) M O S4 n4 k4 cur nd4 pl4 st4 (enumE (addNode N1 (z m))) (addNode N1 (z m)) A1 gN2 cN2 aX nX cX fX aA cA R c1) := hS5.turn ((Turn.refl _ _).alloc _)
        have y6 : wc.cell? ⟨O, 6, none⟩ = some (.slice aA A1.length cA) := hS5.tb.o.cell (by omega)
        have y6a : (wc.alloc (.cells #[.int .i64 (p : Int)] 3)).cell? ⟨O, 6, none⟩ = some (.slice aA A1.length cA) := H6.out.tb.o.cell (by omega)
        have y8a : (wc.alloc (.cells #[.int .i64 (p : Int)] 3)).cell? ⟨O, 8, none⟩ = some (.bool c1) := H6.out.tb.o.cell (by omega)
        have nO : ¬ (aA = some ⟨O, 0, none⟩) := fun e => H6.out.sa.ne H6.out.tb.o (by decide) O e rfl
        have HS6 : Hid (OwnI (wc.alloc (.cells #[.int .i64 (p : Int)] 3)) 3 aA A1.length cA (fun i => .int .i64 (A1.getD i 0))) := H6.out.sa
        have m1 : A1.length + 1 ≤ maxLen := by unfold maxLen; omega
        have m2 : (A1.length + 1) * 8 ≤ 140737488355328 := by omega
        have hfo : ∀ j, (wc.alloc (.cells #[.int .i64 (p : Int)] 3)).frozen? ⟨O, j, none⟩ = false := fun j => H6.out.tb.o.frozen j
        have lO := H6.out.tb.o.lt
        clear hS5
        go_upto_region 8 with (at_builtin; refine wpList_append_ow _ rfl (.tmp 49) (.tmp 51) 26 rfl 3 i0 (.int .i64 0) 8 Ybad.underlying26 i1 i2 i3 i4 rfl aA A1.length cA (fun i => .int .i64 (A1.getD i 0)) rfl HS6.out wc.heap.size 0 1 1 (fun _ => .int .i64 (p : Int)) rfl (new_one _ _ _) (fun _ _ => rfl) (by omega) m1 m2 (wc.heap.size + 1) (by simp) ?_; intro g' c' w6 s6 t6 l6; have y6b := t6.cell y6a nO; have y8b := t6.cell y8a nO; have f6 : ∀ j, w6.frozen? ⟨O, j, none⟩ = false := fun j => (t6.frozen (p := ⟨O, j, none⟩) lO nO).trans (hfo j))
        have hlg : aA = some ⟨g', 0, none⟩ ∨ (wc.alloc (.cells #[.int .i64 (p : Int)] 3)).heap.size ≤ g' := by
          rcases l6 with e | e
          · exact .inl e
          · right; rw [e]; simp
        have hMg : M g' := by
          rcases l6 with e | e
          · exact H5.out.mA g' e
          · exact HU.out _ (by have := T5.size; omega)
        have h7 := H6.out.pushA t6 (p : Int) s6 (fun i hi => getD_push A1 (p : Int) i hi) hlg hMg
        have T7 : Turn M w (w6.setCell ⟨O, 6, none⟩ (.slice (some ⟨g', 0, none⟩) (A1.length + 1) c')) := ((T5.alloc _).trans t6 (fun c _ y => H5.out.mA c y)).setCell (p := ⟨O, 6, none⟩) (.inr H5.out.mO) _
        generalize w6.setCell ⟨O, 6, none⟩ (.slice (some ⟨g', 0, none⟩) (A1.length + 1) c') = w7 at h7 T7 ⊢
        have y8 : w7.cell? ⟨O, 8, none⟩ = some (.bool c1) := h7.tb.o.cell (by omega)
        have f8 : ∀ j, w7.frozen? ⟨O, j, none⟩ = false := fun j => h7.tb.o.frozen j
        have H7 : Hid (Sr w7 M O S4 n4 k4 cur nd4 pl4 st4 (enumE (addNode N1 (z m))) (addNode N1 (z m)) (A1 ++ [(p : Int)]) gN2 cN2 aX nX cX fX (some ⟨g', 0, none⟩) c' R c1) := h7
        clear h7 y6 y6a y6b y8a y8b f6 s6 t6 l6 hfo HS6 H6 nO hlg
        have hfin : ∀ c2 : Bool, c2 = (c1 || ((p : Int) == 0)) → Sr (w7.setCell ⟨O, 8, none⟩ (.bool c2)) M O S4 n4 k4 cur nd4 pl4 st4 (enumE (NN N z (m + 1))) (NN N z (m + 1)) (A ++ PP N z (m + 1)) gN2 cN2 aX nX cX fX (some ⟨g', 0, none⟩) c' R (b || (PP N z (m + 1)).any (· == 0)) := by
          intro c2 hc2
          obtain ⟨g1, g2, g3⟩ := G1.out
          have e1 : NN N z (m + 1) = addNode N1 (z m) := by rw [NN, g1]
          have e2 : A ++ PP N z (m + 1) = A1 ++ [(p : Int)] := by rw [PP, g2, HP.out, g1, List.append_assoc]
          have e3 : (b || (PP N z (m + 1)).any (· == 0)) = c2 := by rw [hc2, g3, PP, List.any_append, HP.out, g1, Bool.or_assoc]; simp
          rw [e1, e2, e3]
          exact H7.out.setI c2
        have HF : Hid (∀ c2 : Bool, c2 = (c1 || ((p : Int) == 0)) → Sr (w7.setCell ⟨O, 8, none⟩ (.bool c2)) M O S4 n4 k4 cur nd4 pl4 st4 (enumE (NN N z (m + 1))) (NN N z (m + 1)) (A ++ PP N z (m + 1)) gN2 cN2 aX nX cX fX (some ⟨g', 0, none⟩) c' R (b || (PP N z (m + 1)).any (· == 0))) := hfin
        have mO := H7.out.mO
        clear hfin G1 H7 H5 H1 H4
        cases c1 with
        | true =>
          go_wp2
          go_roundg (lw - (m + 1))
          case measure => omega
          case rel => exact ⟨m + 1, by omega, rfl, by go_num, T7.setCell (p := ⟨O, 8, none⟩) (.inr mO) _, S4, n4, k4, nd4, pl4, st4, gN2, cN2, _, c', HF.out true rfl⟩
        | false =>
          go_wp2
          go_roundg (lw - (m + 1))
          case measure => omega
          case rel => exact ⟨m + 1, by omega, rfl, by go_num, T7.setCell (p := ⟨O, 8, none⟩) (.inr mO) _, S4, n4, k4, nd4, pl4, st4, gN2, cN2, _, c', HF.out _ rfl⟩
    · obtain rfl : m = lw := by omega
      have bp : (A ++ PP N z m).length = lA + m := by rw [List.length_append, PP_length, HlA.out]
      obtain ⟨A1, hA1⟩ : ∃ A1, A1 = A ++ PP N z m := ⟨_, rfl⟩
      obtain ⟨c1, hc1⟩ : ∃ c1, c1 = (b || (PP N z m).any (· == 0)) := ⟨_, rfl⟩
      rw [← hA1] at hS bp
      rw [← hc1] at hS
      have y5 : wr.cell? ⟨O, 5, none⟩ = some (.slice aX nX cX) := hS.tb.o.cell (by omega)
      have y6 : wr.cell? ⟨O, 6, none⟩ = some (.slice aA A1.length cA) := hS.tb.o.cell (by omega)
      rw [bp] at y6
      have hcap := hS.sa.le
      rw [bp] at hcap
      have q0 : (0 : Int) ≤ (lA : Int) := by omega
      obtain ⟨L, hL⟩ : ∃ L, L = lA + m := ⟨_, rfl⟩
      rw [← hL] at y6
      have q1 : (lA : Int) ≤ (L : Int) := by omega
      have q2 : (L : Int) ≤ (cA : Int) := by omega
      have q3 : (0 : Int) ≤ (L : Int) := by omega
      have HL : Hid (L = lA + m) := hL
      have HS : Hid (Sr wr M O S n k cur nd pl st (enumE (NN N z m)) (NN N z m) A1 gN cN aX nX cX fX aA cA R c1) := hS
      have G1 : Hid (A1 = A ++ PP N z m ∧ c1 = (b || (PP N z m).any (· == 0))) := ⟨hA1, hc1⟩
      have BP : Hid (A1.length = lA + m) := bp
      have HC : Hid (lA + m ≤ cA) := hcap.1
      clear hA1 hc1 bp hcap hL
      have fo5 : wr.frozen? ⟨O, 5, none⟩ = false := hS.tb.o.frozen 5
      have y7 : wr.cell? ⟨O, 7, none⟩ = some (.int .i64 (R : Int)) := hS.tb.o.cell (by omega)
      have nO : ¬ (aX = some ⟨O, 0, none⟩) := fun e => hS.sx.ne hS.tb.o (by decide) O e rfl
      have hob : ∀ k, (Value.slice aX nX cX).ownBlock = some k → aX = some ⟨k, 0, none⟩ := by
        intro k hk
        rcases hS.sx with ⟨e, _, _⟩ | ⟨g, e, _⟩
        · rw [e] at hk; cases hk
        · rw [e] at hk; simp [Value.ownBlock] at hk; rw [e, hk]
      have HOb : Hid (∀ k, (Value.slice aX nX cX).ownBlock = some k → aX = some ⟨k, 0, none⟩) := hob
      have lO := hS.tb.o.lt
      have m1 : nX + 1 ≤ maxLen := by unfold maxLen; omega
      have m2 : (nX + 1) * 24 ≤ 140737488355328 := by omega
      obtain ⟨k0, k1, k2, k3, k4⟩ := info_parts info26
      have KEY : ∀ (v : Value), v.oneCell' = true → (A = [] → v = .slice aA m m) → ∀ w1 g' c', w1.ownsRow 0 26 1 (.slice (some ⟨g', 0, none⟩) (nX + 1) c') (nX + 1) ((List.range nX).map fX ++ [v]) → Turn (fun c => aX = some ⟨c, 0, none⟩) wr w1 → ((Value.slice aX nX cX).ownBlock = some g' ∨ g' = wr.heap.size + 1) → ∀ e, e = Ending.returned (.tuple #[]) →
          ∃ S' n' k' nd' pl' st' gN' cN' gX' cX' fX' aA' cA', e = .returned (.tuple #[]) ∧ Turn M w ((w1.setCell ⟨O, 5, none⟩ (.slice (some ⟨g', 0, none⟩) (nX + 1) c')).setCell ⟨O, 7, none⟩ (.int .i64 ((R + (1 + m) : Nat) : Int))) ∧
      Sr ((w1.setCell ⟨O, 5, none⟩ (.slice (some ⟨g', 0, none⟩) (nX + 1) c')).setCell ⟨O, 7, none⟩ (.int .i64 ((R + (1 + m) : Nat) : Int))) M O S' n' k' cur nd' pl' st' (enumE (NN N z m)) (NN N z m) (A ++ PP N z m) gN' cN' (some ⟨gX', 0, none⟩) (nX + 1) cX' fX' aA' cA' ((R + (1 + m) : Nat) : Int) (b || (PP N z m).any (· == 0)) ∧ (A = [] → fX' nX = .slice aA' m m) := by
        intro v hv hvA w1 g' c' own1 t1 at1 e he
        obtain ⟨g2, cp2, e2, s2⟩ := SlI.ofOwns (f := fun j => if j < nX then fX j else v) own1 (by intro e; cases e) (by
          intro j hj
          by_cases hjn : j < nX
          · rw [if_pos hjn, List.getElem?_append_left (by simpa using hjn)]
            simp [hjn]
          · rw [if_neg hjn]
            obtain rfl : j = nX := by omega
            simp)
        cases e2
        have hMg : M g' := by
          rcases at1 with e | e
          · exact HS.out.mX g' (HOb.out g' e)
          · exact HU.out _ (by have := hT.size; omega)
        have hp := (HS.out.pushX t1 s2 hMg).setR ((R + (1 + m) : Nat) : Int)
        obtain ⟨g1, g2⟩ := G1.out
        rw [← g1, ← g2]
        exact ⟨S, n, k, nd, pl, st, gN, cN, g', c', _, aA, cA, he, ((hT.trans t1 (fun c _ y => HS.out.mX c y)).setCell (p := ⟨O, 5, none⟩) (.inr HS.out.mO) _).setCell (p := ⟨O, 7, none⟩) (.inr HS.out.mO) _, hp, fun hA => by rw [if_neg (by omega)]; exact hvA hA⟩
      have HKEY : Hid (∀ (v : Value), v.oneCell' = true → (A = [] → v = .slice aA m m) → ∀ w1 g' c', w1.ownsRow 0 26 1 (.slice (some ⟨g', 0, none⟩) (nX + 1) c') (nX + 1) ((List.range nX).map fX ++ [v]) → Turn (fun c => aX = some ⟨c, 0, none⟩) wr w1 → ((Value.slice aX nX cX).ownBlock = some g' ∨ g' = wr.heap.size + 1) → ∀ e, e = Ending.returned (.tuple #[]) →
          ∃ S' n' k' nd' pl' st' gN' cN' gX' cX' fX' aA' cA', e = .returned (.tuple #[]) ∧ Turn M w ((w1.setCell ⟨O, 5, none⟩ (.slice (some ⟨g', 0, none⟩) (nX + 1) c')).setCell ⟨O, 7, none⟩ (.int .i64 ((R + (1 + m) : Nat) : Int))) ∧
      Sr ((w1.setCell ⟨O, 5, none⟩ (.slice (some ⟨g', 0, none⟩) (nX + 1) c')).setCell ⟨O, 7, none⟩ (.int .i64 ((R + (1 + m) : Nat) : Int))) M O S' n' k' cur nd' pl' st' (enumE (NN N z m)) (NN N z m) (A ++ PP N z m) gN' cN' (some ⟨gX', 0, none⟩) (nX + 1) cX' fX' aA' cA' ((R + (1 + m) : Nat) : Int) (b || (PP N z m).any (· == 0)) ∧ (A = [] → fX' nX = .slice aA' m m)) := KEY
      have HOX : Hid (∀ o, (wr.alloc o).ownsRow 0 26 1 (.slice aX nX cX) nX ((List.range nX).map fX)) := fun o => (hS.sx.turn ((Turn.refl (fun _ => False) wr).alloc o) (fun _ _ y => y)).owns
      clear KEY hob
      clear hS
      have hreg : ∃ (x : Option Addr) (d : Nat), (A = [] → Value.slice x d d = .slice aA m m) ∧ x = (if L = lA then aA else aA.map (·.add (lA * 1))) ∧ d = L - lA := by
        refine ⟨_, _, fun hA => ?_, rfl, rfl⟩
        have h1 := HlA.out
        have h2 := HL.out
        rw [hA] at h1
        simp only [List.length_nil] at h1
        rw [h2, h1]
        simp
        intro _
        cases aA with
        | none => rfl
        | some x => obtain ⟨g, o, s⟩ := x; cases s <;> simp [Addr.add]
      obtain ⟨x, d, hV2, hV3, hV4⟩ := hreg
      have HV2 : Hid (A = [] → Value.slice x d d = .slice aA m m) := hV2
      have e26 : Ybad.prog.elem 26 = 3 := by kernel_rfl
      have hsl : ∀ W, (Instr.slice 26 (.slice aA L cA) (some (.int .i64 (lA : Int))) (some (.int .i64 (L : Int))) (some (.int .i64 (L : Int)))).run Ybad.prog W = .ok (.slice x d d) W := by
        intro W
        rw [run_slice_lhm W 26 aA L cA Ybad.underlying26 .i64 .i64 .i64 _ _ _ q0 q1 (Int.le_refl _) q2]
        simp [sizeOf, typeInfo, e26, i1, i3, hV3, hV4, sliced]
      clear hV2 hV3 hV4 e26
      go_upto_region 10 with fail
      have ya5 : ∀ o, (wr.alloc o).cell? ⟨O, 5, none⟩ = some (.slice aX nX cX) := fun o => ((Turn.refl (fun _ => False) wr).alloc o).cell y5 (fun y => y)
      have yd5 : ∀ o, (wr.drew.alloc o).cell? ⟨O, 5, none⟩ = some (.slice aX nX cX) := fun o => ya5 o
      have ya6 : ∀ o, (wr.alloc o).cell? ⟨O, 6, none⟩ = some (.slice aA L cA) := fun o => ((Turn.refl (fun _ => False) wr).alloc o).cell y6 (fun y => y)
      have yd6 : ∀ o, (wr.drew.alloc o).cell? ⟨O, 6, none⟩ = some (.slice aA L cA) := fun o => ya6 o
      go_cut [] from 67 to 91 (fun wx => ∃ w1 g' c', w1.ownsRow 0 26 1 (.slice (some ⟨g', 0, none⟩) (nX + 1) c') (nX + 1) ((List.range nX).map fX ++ [.slice x d d]) ∧ Turn (fun c => aX = some ⟨c, 0, none⟩) wr w1 ∧ ((Value.slice aX nX cX).ownBlock = some g' ∨ g' = wr.heap.size + 1) ∧ wx = w1.setCell ⟨O, 5, none⟩ (.slice (some ⟨g', 0, none⟩) (nX + 1) c'))
      case first =>
        clear HKEY HV2 HS G1 BP HC HL hT HH HU HW HZ HN HlA x6 b1 b2 b4 h8 ya6 
        go_region_law (first | ((refine step_append_lies _ (by rfl) (.tmp 71) (.tmp 88) 35 (by rfl) 0 26 k0 (.slice none 0 0) 1 24 Ybad.underlying35 k1 k2 k3 k4 rfl (by omega) (.slice aX nX cX) nX ((List.range nX).map fX) (by rfl) (by exact HOX.out _) ⟨wr.heap.size, 0, none⟩ 1 1 [.slice x d d] (by rfl) (by rfl) (by exact World.news_of_block (heap_alloc_new wr _)) (by intro u hu; simp at hu; subst hu; rfl) (by omega) m1 m2 (Nat.zero_le _) (wr.heap.size + 1) (by simp) ?_; intro g' c' w1 own1 gr1 at1 lt1; have t1 : Turn (fun c => aX = some ⟨c, 0, none⟩) wr w1 := ((Turn.refl (fun c => aX = some ⟨c, 0, none⟩) wr).drew.alloc _).grown gr1 (fun k hk => .inr (HOb.out k hk)); have z5 := t1.cell y5 nO; have zf := (t1.frozen (p := ⟨O, 5, none⟩) lO nO).trans fo5)))
        all_goals
          go_wp2
          go_meet
          case rel => exact ⟨w1, g', c', own1, t1, at1, rfl⟩
      case rest =>
        obtain ⟨w1, g', c', own1, t1, at1, rfl⟩ := hcut
        have z7 : (w1.setCell ⟨O, 5, none⟩ (.slice (some ⟨g', 0, none⟩) (nX + 1) c')).cell? ⟨O, 7, none⟩ = some (.int .i64 (R : Int)) := (World.cell?_setCell_other _ _ _ _ (by simp)).trans (t1.cell y7 nO)
        have zf : ∀ j, (w1.setCell ⟨O, 5, none⟩ (.slice (some ⟨g', 0, none⟩) (nX + 1) c')).frozen? ⟨O, j, none⟩ = false := fun j => by rw [World.frozen?_setCell]; exact (t1.frozen (p := ⟨O, j, none⟩) lO nO).trans (HS.out.tb.o.frozen j)
        have hk := HKEY.out (.slice x d d) rfl HV2.out w1 g' c' own1 t1 at1 (.returned (.tuple #[])) rfl
        generalize w1.setCell ⟨O, 5, none⟩ (.slice (some ⟨g', 0, none⟩) (nX + 1) c') = w2 at z7 zf hk ⊢
        have HK2 : Hid _ := hk
        clear hk hsl t1 own1 at1 y5 y6 y7 ya5 yd5 ya6 yd6
        go_wp2
        go_end0
        have eR : (R : Int) + (1 + (m : Int)) = ((R + (1 + m) : Nat) : Int) := by omega
        rw [eR]
        obtain ⟨S', n', k', nd', pl', st', gN', cN', gX', cX', fX', aA', cA', _, h1, h2, h3⟩ := HK2.out
        exact ⟨rfl, h1, S', n', k', nd', pl', st', gN', cN', gX', cX', fX', aA', ⟨cA', h2⟩, h3⟩
end Go.Proofs.YbulkegnmDoor
