import Derived.Test.YbulkegmyRows
import Derived.Test.YbulkegmyAid
namespace Go.Proofs.Ybulkegmy
open Go.RowKit

/-- The cells of the stand-in cipher's struct: 16 of the key, then calls, srcs, dlens. -/
def stF (kz : Nat → Int) (a b c : Value) : Nat → Value := fun j => if j < 16 then .int .u8 (kz j) else if j = 16 then a else if j = 17 then b else c
theorem stF_key {kz : Nat → Int} {a b c : Value} {j : Nat} (h : j < 16) : stF kz a b c j = .int .u8 (kz j) := if_pos h
/-- What Encrypt lays at place m: (h ^ k) + byte(m). -/
def encB (m : Nat) (h k : Int) : Int := (bits BinOp.xor IntKind.u8 h k + (m : Int)) % 256
/-- The bytes behind m rounds. -/
def encTo (m : Nat) (hz kz : Nat → Int) : Nat → Int := fun j => if j < m then encB j (hz j) (kz j) else hz j
theorem encTo_zero (hz kz : Nat → Int) : (fun j => Value.int .u8 (encTo 0 hz kz j)) = fun j => .int .u8 (hz j) := by funext j; simp [encTo]
theorem encTo_here (m : Nat) (hz kz : Nat → Int) : encTo m hz kz m = hz m := by simp [encTo]
theorem encTo_step (m : Nat) (hz kz : Nat → Int) (j : Nat) : Value.int .u8 (encTo (m + 1) hz kz j) = if j = m then .int .u8 (encB m (hz m) (kz m)) else .int .u8 (encTo m hz kz j) := by
  unfold encTo
  by_cases h : j = m
  · subst h; simp
  · by_cases h2 : j < m
    · rw [if_pos (by omega), if_neg h, if_pos h2]
    · rw [if_neg (by omega), if_neg h, if_neg h2]
theorem info5 : (Yba.prog.info? 5).map (fun i => (i.zero, i.size, i.bytes)) = some (some (.int .u8 0), 1, 1) := by kernel_rfl
theorem info38 : (Yba.prog.info? 38).map (fun i => (i.zero, i.size, i.bytes)) = some (some (.slice none 0 0), 1, 24) := by kernel_rfl
theorem info3 : (Yba.prog.info? 3).map (fun i => (i.zero, i.size, i.bytes)) = some (some (.int .i64 0), 1, 8) := by kernel_rfl

theorem cell_setCell_far {w : World} {p q : Addr} (h : q.block ≠ p.block) (v : Value) : (w.setCell p v).cell? q = w.cell? q := World.cell?_of_block (Below.heap_setCell _ _ _ _ h)
/-- What the append to b.srcs leaves. -/
structure Mid (S D : Nat) (hz kz : Nat → Int) (w wx : World) (g1 c1 g3 c3 : Nat) : Prop where
  st : wx.rowIs S 28 19 (stF kz (.int .i64 1) (.slice (some ⟨g1, 0, none⟩) 1 c1) (.slice none 0 0))
  turn : Turn (fun k => k = S) w wx
  g1a : w.heap.size ≤ g1
  g1b : g1 < wx.heap.size
  g3a : w.heap.size ≤ g3
  g3b : g3 < wx.heap.size
  at1 : wx.cell? ⟨g1, 0, none⟩ = some (.slice (some ⟨g3, 0, none⟩) 16 c3)
  at3 : ∀ j, j < 16 → wx.cell? ⟨g3, j, none⟩ = some (.int .u8 (hz j))
theorem mid_mk {S D : Nat} {hz kz : Nat → Int} {w w1 w2 w3 : World} {g1 c1 g3 c3 : Nat} (hS : S < w.heap.size)
    (R1 : w1.rowIs S 28 19 (stF kz (.int .i64 1) (.slice none 0 0) (.slice none 0 0))) (T1 : Turn (fun k => k = S) w w1) (T2 : Turn (fun _ => False) w1 w2) (T3 : Turn (fun _ => False) w1 w3)
    (h3 : g3 = w1.heap.size) (h1 : g1 = w2.heap.size + 1) (hl3 : g3 < w2.heap.size) (hl1 : g1 < w3.heap.size)
    (hown3 : w2.ownsRow w1.heap.size 5 1 (.slice (some ⟨g3, 0, none⟩) 16 c3) 16 ((List.range 16).map (fun j => Value.int .u8 (hz j))))
    (hown1 : w3.ownsRow w1.heap.size 38 1 (.slice (some ⟨g1, 0, none⟩) 1 c1) 1 [.slice (some ⟨g3, 0, none⟩) 16 c3])
    (hgr : (w2.alloc (.cells #[.slice (some ⟨g3, 0, none⟩) 16 c3] 38)).grownBy w3 none) :
    Mid S D hz kz w (w3.setCell ⟨S, 17, none⟩ (.slice (some ⟨g1, 0, none⟩) 1 c1)) g1 c1 g3 c3 where
  st := row_put (T3.row R1 (fun h => h)) 17 _ _ (fun j hj => by unfold stF; split <;> (try split) <;> simp_all <;> omega)
  turn := (T1.trans T3 (fun _ _ h => h.elim)).setCell (p := ⟨S, 17, none⟩) (.inr rfl) _
  g1a := by have := T1.size; have := T2.size; omega
  g1b := by simpa [World.setCell] using hl1
  g3a := by have := T1.size; omega
  g3b := by have := hgr.size; simp at this; simp [World.setCell]; omega
  at1 := by
    rw [cell_setCell_far (by have := T1.size; have := T2.size; show g1 ≠ S; omega)]
    simpa using hown1.cellAt 0 (by omega)
  at3 := by
    intro j hj
    rw [cell_setCell_far (by have := T1.size; show g3 ≠ S; omega)]
    have hb : w3.heap[g3]? = w2.heap[g3]? := (hgr.block g3 (by simp; omega) (by simp)).trans (Below.heap_alloc _ _ _ hl3)
    rw [World.cell?_of_block (w := w2) hb]
    have := hown3.cellAt j (by omega)
    simpa [hj] using this

/-- What the append to b.dlens leaves. -/
structure Fin2 (S : Nat) (hz kz : Nat → Int) (w wx : World) (g1 c1 g2 c2 g3 c3 : Nat) : Prop where
  st : wx.rowIs S 28 19 (stF kz (.int .i64 1) (.slice (some ⟨g1, 0, none⟩) 1 c1) (.slice (some ⟨g2, 0, none⟩) 1 c2))
  turn : Turn (fun k => k = S) w wx
  g1a : w.heap.size ≤ g1
  g2a : w.heap.size ≤ g2
  g3a : w.heap.size ≤ g3
  at1 : wx.cell? ⟨g1, 0, none⟩ = some (.slice (some ⟨g3, 0, none⟩) 16 c3)
  at2 : wx.cell? ⟨g2, 0, none⟩ = some (.int .i64 16)
  at3 : ∀ j, j < 16 → wx.cell? ⟨g3, j, none⟩ = some (.int .u8 (hz j))
theorem fin2_mk {S D : Nat} {hz kz : Nat → Int} {w wa wb : World} {g1 c1 g2 c2 g3 c3 : Nat} (hS : S < w.heap.size) (hM : Mid S D hz kz w wa g1 c1 g3 c3)
    (Tb : Turn (fun _ => False) wa wb) (h2 : g2 = wa.heap.size + 1)
    (hown2 : wb.ownsRow wa.heap.size 3 1 (.slice (some ⟨g2, 0, none⟩) 1 c2) 1 [.int .i64 16]) :
    Fin2 S hz kz w (wb.setCell ⟨S, 18, none⟩ (.slice (some ⟨g2, 0, none⟩) 1 c2)) g1 c1 g2 c2 g3 c3 where
  st := row_put (Tb.row hM.st (fun h => h)) 18 _ _ (fun j hj => by unfold stF; split <;> (try split) <;> (try split) <;> simp_all <;> omega)
  turn := (hM.turn.trans Tb (fun _ _ h => h.elim)).setCell (p := ⟨S, 18, none⟩) (.inr rfl) _
  g1a := hM.g1a
  g2a := by have := hM.turn.size; omega
  g3a := hM.g3a
  at1 := by
    rw [cell_setCell_far (by have := hM.g1a; show g1 ≠ S; omega)]
    exact Tb.cell hM.at1 (fun h => h)
  at2 := by
    rw [cell_setCell_far (by have := hM.turn.size; show g2 ≠ S; omega)]
    simpa using hown2.cellAt 0 (by omega)
  at3 := by
    intro j hj
    rw [cell_setCell_far (by have := hM.g3a; show g3 ≠ S; omega)]
    exact Tb.cell (hM.at3 j hj) (fun h => h)

structure EncPost (S D : Nat) (hz kz : Nat → Int) (w wx : World) (g1 c1 g2 c2 g3 c3 : Nat) : Prop where
  st : wx.rowIs S 28 19 (stF kz (.int .i64 1) (.slice (some ⟨g1, 0, none⟩) 1 c1) (.slice (some ⟨g2, 0, none⟩) 1 c2))
  dst : wx.rowIs D 35 32 (fun j => .int .u8 (encTo 16 hz kz j))
  turn : Turn (fun k => k = S ∨ k = D) w wx
  g1a : w.heap.size ≤ g1
  g2a : w.heap.size ≤ g2
  g3a : w.heap.size ≤ g3
  at1 : wx.cell? ⟨g1, 0, none⟩ = some (.slice (some ⟨g3, 0, none⟩) 16 c3)
  at2 : wx.cell? ⟨g2, 0, none⟩ = some (.int .i64 16)
  at3 : ∀ j, j < 16 → wx.cell? ⟨g3, j, none⟩ = some (.int .u8 (hz j))
theorem encPost_mk {S D : Nat} {hz kz : Nat → Int} {w we wx : World} {g1 c1 g2 c2 g3 c3 : Nat} (sd : S ≠ D) (hD : D < w.heap.size) (hF : Fin2 S hz kz w we g1 c1 g2 c2 g3 c3) (hT : Turn (fun k => k = D) we wx)
    (hR : wx.rowIs D 35 32 (fun j => .int .u8 (encTo 16 hz kz j))) : EncPost S D hz kz w wx g1 c1 g2 c2 g3 c3 where
  st := hT.row hF.st sd
  dst := hR
  turn := (hF.turn.mono (fun _ _ h => .inl h)).trans hT (fun _ _ h => .inr h)
  g1a := hF.g1a
  g2a := hF.g2a
  g3a := hF.g3a
  at1 := hT.cell hF.at1 (fun h => by have := hF.g1a; simp at h; omega)
  at2 := hT.cell hF.at2 (fun h => by have := hF.g2a; simp at h; omega)
  at3 := fun j hj => hT.cell (hF.at3 j hj) (fun h => by have := hF.g3a; simp at h; omega)

attribute [local go_sem ↓] Go.wp_at_zero Go.wp_at_succ
set_option maxRecDepth 100000 in
set_option maxHeartbeats 1000000 in
theorem enc_any (S D C : Nat) (hz kz : Nat → Int) (w : World) (hS : w.rowIs S 28 19 (stF kz (.int .i64 0) (.slice none 0 0) (.slice none 0 0)))
    (hD : w.rowIs D 35 32 (fun j => .int .u8 (hz j))) (hC : w.rowIs C 37 32 (fun j => .int .u8 (hz j))) (sd : S ≠ D) (sc : S ≠ C) (dc : D ≠ C) :
    Calls Yba.prog 21 #[.pointer (some ⟨S, 0, none⟩), .slice (some ⟨D, 0, none⟩) 16 32, .slice (some ⟨C, 0, none⟩) 16 32] w fun e w' => e = .returned (.tuple #[]) ∧ ∃ g1 c1 g2 c2 g3 c3 : Nat, EncPost S D hz kz w w' g1 c1 g2 c2 g3 c3 := by
  obtain ⟨i5, i51, i52, i53, i54⟩ := info_parts info5
  obtain ⟨i38, i381, i382, i383, i384⟩ := info_parts info38
  obtain ⟨i3, i31, i32, i33, i34⟩ := info_parts info3
  have c16 : w.cell? ⟨S, 16, none⟩ = some (.int .i64 0) := hS.cell (by omega)
  have f16 : w.frozen? ⟨S, 16, none⟩ = false := hS.frozen _
  have R1 : (w.setCell ⟨S, 16, none⟩ (.int .i64 1)).rowIs S 28 19 (stF kz (.int .i64 1) (.slice none 0 0) (.slice none 0 0)) := row_put hS 16 _ _ (fun j hj => by unfold stF; split <;> (try split) <;> simp_all <;> omega)
  have T1 : Turn (fun k => k = S) w (w.setCell ⟨S, 16, none⟩ (.int .i64 1)) := (Turn.refl (fun k => k = S) w).setCell (p := ⟨S, 16, none⟩) (.inr rfl) _
  obtain ⟨w1, hw1⟩ : ∃ w1, w1 = w.setCell ⟨S, 16, none⟩ (.int .i64 1) := ⟨_, rfl⟩
  go_enter Yba.func21, Yba.ntmps21
  go_upto_region 1 with fail
  rw [← hw1] at R1 T1 ⊢
  clear c16 f16 hw1
  have c17 : w1.cell? ⟨S, 17, none⟩ = some (.slice none 0 0) := R1.cell (by omega)
  have f17 : w1.frozen? ⟨S, 17, none⟩ = false := R1.frozen _
  have lS := R1.lt
  have lC : C < w1.heap.size := Nat.lt_of_lt_of_le hC.lt T1.size
  have rC : w1.rowIs C 37 32 (fun j => .int .u8 (hz j)) := T1.row hC (fun h => sc h.symm)
  have HN : Hid (∀ j u, ((List.range 16).map (fun j => Value.int .u8 (hz j)))[j]? = some u → w1.cell? ((⟨C, 0, none⟩ : Addr).add j) = some u) := by
    intro j u hu
    rw [WideShapes.add_plain, Nat.zero_add]
    obtain ⟨hj, rfl⟩ := List.getElem?_eq_some_iff.1 hu
    simp at hj
    simpa using rC.cell (show j < 32 by omega)
  go_cut [] (fun wx => ∃ g1 c1 g3 c3 : Nat, Mid S D hz kz w wx g1 c1 g3 c3)
  case first =>
    have tok1 : True := trivial
    go_region_law
      (first
        | (have _t := tok1; refine step_append_lies _ (by rfl) (.const (.slice none 0 0)) (.tmp 20) 38 (by rfl) w1.heap.size 5 i5 (.int .u8 0) 1 1 Yba.underlying38 i51 i52 i53 i54 rfl (by omega) (.slice none 0 0) 0 [] ?q1 (World.ownsRow_nil _ _ _ _)
            ⟨C, 0, none⟩ 16 32 ((List.range 16).map (fun j => Value.int .u8 (hz j))) ?q2 ?q3 ?q4 ?q5 ?q6 ?q7 ?q8 ?q9 w1.heap.size ?q10 ?_; (case q1 => rfl); (case q2 => rfl); (case q3 => rfl); (case q4 => exact HN.out); (case q5 => simp [Value.oneCell']); (case q6 => omega); (case q7 => unfold maxLen; omega); (case q8 => omega); (case q9 => simp); (case q10 => simp); intro g3 c3 w2 hown3 hgrow hat3 hlt3; have T2 : Turn (fun _ => False) w1 w2 := Turn.grown (Turn.drew (Turn.refl _ w1)) hgrow (by intro k hk; simp [Value.ownBlock] at hk); have c2 : w2.cell? ⟨S, 17, none⟩ = some (.slice none 0 0) := T2.cell c17 (fun h => h); have l3 : S < w2.heap.size := Nat.lt_of_lt_of_le lS T2.size; clear tok1; have tok2 : True := trivial)
        | (have _t := tok2; refine step_append_lies _ (by rfl) (.tmp 19) (.tmp 22) 25 (by rfl) w1.heap.size 38 i38 (.slice none 0 0) 1 24 Yba.underlying25 i381 i382 i383 i384 rfl (by omega) (.slice none 0 0) 0 [] ?r1 (World.ownsRow_nil _ _ _ _)
            ⟨w2.heap.size, 0, none⟩ 1 1 [.slice (some ⟨g3, 0, none⟩) 16 c3] ?r2 ?r3 ?r4 ?r5 ?r6 ?r7 ?r8 ?r9 (w2.heap.size + 1) ?r10 ?_; (case r1 => rfl); (case r2 => rfl); (case r3 => rfl); (case r4 => exact World.news_of_block (cs := #[.slice (some ⟨g3, 0, none⟩) 16 c3]) (t := 38) (fr := (0, 0)) (heap_alloc_new w2 _)); (case r5 => simp [Value.oneCell']); (case r6 => omega); (case r7 => unfold maxLen; omega); (case r8 => omega); (case r9 => have := T2.size; simp; omega); (case r10 => simp); intro g1 c1 w3 hown1 hgrow2 hat1 hlt1; have T3 : Turn (fun _ => False) w1 w3 := Turn.grown (T2.alloc _) hgrow2 (by intro k hk; simp [Value.ownBlock] at hk); have f3 : w3.frozen? ⟨S, 17, none⟩ = false := (T3.frozen lS (fun h => h)).trans f17; have c3x : w3.cell? ⟨S, 17, none⟩ = some (.slice none 0 0) := T3.cell c17 (fun h => h); clear tok2))
    all_goals
      go_wp2
      go_meet
      case rel => exact ⟨g1, c1, g3, c3, mid_mk hS.lt R1 T1 T2 T3 (by simpa [Value.ownBlock] using hat3) (by simpa [Value.ownBlock] using hat1) hlt3 hlt1 (by simpa using hown3) (by simpa using hown1) (by simpa [Value.ownBlock] using hgrow2)⟩
  case rest =>
    obtain ⟨g1, c1, g3, c3, hM⟩ := hcut
    clear R1 T1 c17 f17 lS lC rC HN
    obtain ⟨wa, rfl⟩ : ∃ wa : World, wa = wc := ⟨_, rfl⟩
    have lS : S < wa.heap.size := hM.st.lt
    have c18 : ∀ o, (wa.alloc o).cell? ⟨S, 18, none⟩ = some (.slice none 0 0) := fun o => (hM.st.alloc o).cell (show 18 < 19 by omega)
    have c18' : wa.cell? ⟨S, 18, none⟩ = some (.slice none 0 0) := hM.st.cell (show 18 < 19 by omega)
    go_wp2_with (at_builtin; refine wpList_append_lies _ rfl (.tmp 30) (.tmp 33) 26 rfl wa.heap.size 3 i3 (.int .i64 0) 1 8 Yba.underlying26 i31 i32 i33 i34 rfl (by omega) (.slice none 0 0) 0 [] rfl (World.ownsRow_nil _ _ _ _) ⟨wa.heap.size, 0, none⟩ 1 1 [.int .i64 16] rfl rfl (World.news_of_block (cs := #[.int .i64 16]) (t := 3) (fr := (0, 0)) (heap_alloc_new wa _)) (by simp [Value.oneCell']) (by omega) (by unfold maxLen; omega) (by omega) (by simp) (wa.heap.size + 1) (by simp) ?_; intro g2 c2 wb hown2 hgrow2 hat2 hlt2; have Tb : Turn (fun _ => False) wa wb := Turn.grown ((Turn.refl _ wa).alloc _) hgrow2 (by intro k hk; simp [Value.ownBlock] at hk); have f18 : wb.frozen? ⟨S, 18, none⟩ = false := (Tb.frozen lS (fun h => h)).trans (hM.st.frozen _); have c18b : wb.cell? ⟨S, 18, none⟩ = some (.slice none 0 0) := Tb.cell c18' (fun h => h))
    have hF := fin2_mk hS.lt hM Tb (by simpa [Value.ownBlock] using hat2) (by simpa using hown2)
    have HF : Hid _ := hF
    clear hF c18 c18' f18 c18b hown2 hgrow2 hat2 hlt2 Tb hM lS
    generalize wb.setCell ⟨S, 18, none⟩ (.slice (some ⟨g2, 0, none⟩) 1 c2) = we at HF ⊢
    have HD : Hid (we.rowIs D 35 32 (fun j => .int .u8 (hz j))) := HF.out.turn.row hD (fun h => sd h.symm)
    have HC : Hid (we.rowIs C 37 32 (fun j => .int .u8 (hz j))) := HF.out.turn.row hC (fun h => sc h.symm)
    have lD := hD.lt
    clear hS hD hC
    go_loopg [7] 16 (fun gk i wr => ∃ m : Nat, m ≤ 16 ∧ gk = 16 - m ∧ i = .int .i64 m ∧ Turn (fun k => k = D) we wr ∧ Hid (wr.rowIs D 35 32 (fun j => .int .u8 (encTo m hz kz j))))
    case atStart => exact ⟨0, by omega, rfl, rfl, Turn.refl _ _, by rw [encTo_zero]; exact HD⟩
    case round =>
      obtain ⟨m, hm, hgk, rfl, hT, HR⟩ := hrel
      by_cases hlt : m < 16
      · have kD := HR.out.cell (show m < 32 by omega)
        have fD := HR.out.frozen m
        have kC := (hT.row HC.out (fun h => dc h.symm)).cell (show m < 32 by omega)
        have kS := (hT.row HF.out.st sd).cell (show m < 19 by omega)
        rw [stF_key hlt] at kS
        rw [encTo_here] at kD
        have i0 : (0 : Int) ≤ (m : Int) := by omega
        have i1 : (m : Int) < (16 : Int) := by omega
        go_wp2
        go_region
        go_wp2
        go_roundg (16 - (m + 1))
        case measure => omega
        case rel => exact ⟨m + 1, by omega, rfl, by go_num, (hT.setCell (p := ⟨D, m, none⟩) (.inr rfl) _).drew, row_put HR.out m _ _ (fun j _ => encTo_step m hz kz j)⟩
      · obtain rfl : m = 16 := by omega
        go_wp2
        go_end0
        exact ⟨rfl, g1, c1, g2, c2, g3, c3, encPost_mk sd lD HF.out hT HR.out⟩
end Go.Proofs.Ybulkegmy
