import Derived.Test.YbulkegnmDoorX
namespace Go.Proofs.YbulkegnmDoor
open Go Go.RowKit

set_option maxRecDepth 100000 in
theorem closure_any (V : Nat) (x : Value) (v : Value) (w : World) (hV : w.cell? ⟨V, 0, none⟩ = some v) (aW : Option Addr) (lw cw : Nat) (hv : v = .slice aW lw cw) :
    Calls Ybad.prog 10 #[x, .pointer (some ⟨V, 0, none⟩)] w fun e w' => e = .returned (.slice aW lw cw) ∧ w' = w := by
  subst hv
  go_enter Ybad.func10, Ybad.ntmps10
  go_wp2
  go_ret
  exact ⟨rfl, rfl⟩

set_option maxRecDepth 100000 in
theorem unread_any (O gN nN cN : Nat) (aX : Option Addr) (nX cX : Nat) (w : World) (h4 : w.cell? ⟨O, 4, none⟩ = some (.slice (some ⟨gN, 0, none⟩) nN cN)) (h5 : w.cell? ⟨O, 5, none⟩ = some (.slice aX nX cX)) (b1 : nN ≤ 100000) (b2 : nX ≤ 100000) :
    Calls Ybad.prog 16 #[.pointer (some ⟨O, 0, none⟩)] w fun e w' => e = .returned (.int .i64 ((nN : Int) - (nX : Int))) ∧ Turn (fun _ => False) w w' := by
  go_enter Ybad.func16, Ybad.ntmps16
  go_upto_region 1 with fail
  go_quiet (fail)
  go_wp2
  go_ret
  exact ⟨rfl, (Turn.refl _ _).drewN _⟩

set_option maxRecDepth 100000 in
theorem done_any (O gN nN cN : Nat) (aX : Option Addr) (nX cX : Nat) (w : World) (h4 : w.cell? ⟨O, 4, none⟩ = some (.slice (some ⟨gN, 0, none⟩) nN cN)) (h5 : w.cell? ⟨O, 5, none⟩ = some (.slice aX nX cX)) (b1 : nN ≤ 100000) (b2 : nX ≤ 100000) :
    Calls Ybad.prog 8 #[.pointer (some ⟨O, 0, none⟩)] w fun e w' => e = .returned (.bool (decide (nN = nX))) ∧ Turn (fun _ => False) w w' := by
  have hu := unread_any O gN nN cN aX nX cX w h4 h5 b1 b2
  have hd : (((nN : Int) - (nX : Int)) == 0) = decide (nN = nX) := by
    by_cases e : nN = nX
    · simp [e]
    · rw [decide_eq_false e]; simp; omega
  go_enter Ybad.func8, Ybad.ntmps8
  go_wp2_with (go_at_call 16; refine hu.mono ?_; rintro e w2 ⟨rfl, t2⟩)
  go_ret
  exact ⟨rfl, t2⟩

set_option maxRecDepth 100000 in
theorem unreadNode_any (O gN nN cN : Nat) (aX : Option Addr) (nX cX : Nat) (v : Int) (w : World) (h4 : w.cell? ⟨O, 4, none⟩ = some (.slice (some ⟨gN, 0, none⟩) nN cN)) (h5 : w.cell? ⟨O, 5, none⟩ = some (.slice aX nX cX)) (hlt : nX < nN) (hc : w.cell? ⟨gN, nX, none⟩ = some (.int .i64 v)) :
    Calls Ybad.prog 18 #[.pointer (some ⟨O, 0, none⟩)] w fun e w' => e = .returned (.int .i64 v) ∧ Turn (fun _ => False) w w' := by
  have i0 : (0 : Int) ≤ (nX : Int) := by omega
  have i1 : (nX : Int) < (nN : Int) := by omega
  go_enter Ybad.func18, Ybad.ntmps18
  go_upto_region 1 with fail
  go_quiet (fail)
  go_wp2
  go_ret
  exact ⟨rfl, (Turn.refl _ _).drewN _⟩

set_option maxHeartbeats 1000000 in
set_option maxRecDepth 100000 in
theorem step_any (M : Nat → Prop) (O S n k cur : Nat) (nd pl : Nat → Int) (st : Nat → Nat) (N A : List Int) (gN cN : Nat) (aX : Option Addr) (nX cX : Nat) (fX : Nat → Value) (aA : Option Addr) (cA : Nat) (R : Nat) (b : Bool) (V : Nat) (aW : Option Addr) (lw cw : Nat) (z : Nat → Int) (w : World)
    (h : Sr w M O S n k cur nd pl st (enumE N) N A gN cN aX nX cX fX aA cA R b) (hnod : N.Nodup) (up : ∀ c, w.heap.size ≤ c → M c) (hV : w.cell? ⟨V, 0, none⟩ = some (.slice aW lw cw))
    (hW : 0 < lw → ∃ bW oW, aW = some ⟨bW, oW, none⟩ ∧ ¬ M bW ∧ ∀ j, j < lw → w.cell? ⟨bW, oW + j, none⟩ = some (.int .i64 (z j))) (hz : TzOk w) (h8 : ¬ M 8)
    (b1 : N.length + lw ≤ 5000) (b2 : A.length + lw ≤ 100000) (b3 : nX < N.length) (b4 : R ≤ 1000000) :
    Calls Ybad.prog 9 #[.pointer (some ⟨O, 0, none⟩), .func (.func 10) #[] #[.pointer (some ⟨V, 0, none⟩)]] w fun e w' => ∃ S' n' k' nd' pl' st' gN' cN' gX' cX' fX' aA' cA', e = .returned (.tuple #[]) ∧ Turn M w w' ∧
      Sr w' M O S' n' k' cur nd' pl' st' (enumE (NN N z lw)) (NN N z lw) (A ++ PP N z lw) gN' cN' (some ⟨gX', 0, none⟩) (nX + 1) cX' fX' aA' cA' ((R + (1 + lw) : Nat) : Int) (b || (PP N z lw).any (· == 0)) := by
  have hun := unreadNode_any O gN N.length cN aX nX cX (N.getD nX 0) w (h.tb.o.cell (by omega)) (h.tb.o.cell (by omega)) b3 (h.sn.cell b3)
  have hcl := fun W (t : Turn (fun _ => False) w W) => closure_any V (.int .i64 (N.getD nX 0)) _ W (t.cell hV (fun y => y)) aW lw cw rfl
  have hadd := fun W (t : Turn (fun _ => False) w W) => add_any M O S n k cur nd pl st N A gN cN aX nX cX fX aA cA R b aW lw cw z W (h.turn t) hnod (fun c hc => up c (Nat.le_trans t.size hc)) (fun hl => by
      obtain ⟨bW, oW, e, hM, hc⟩ := hW hl
      exact ⟨bW, oW, e, hM, fun j hj => t.cell (hc j hj) (fun y => y)⟩) (hz.turn t (fun y => y)) h8 b1 b2 (by omega) b4
  clear h hV hW up
  generalize N.getD nX 0 = x at hun hcl
  go_enter Ybad.func9, Ybad.ntmps9
  go_wp2_with (first | (go_at_call 18; refine hun.mono ?_; rintro e w2 ⟨rfl, t2⟩) | (go_at_call 10; refine (hcl _ t2).mono ?_; rintro e w3 ⟨rfl, h3⟩; replace h3 := h3.symm; subst h3) | (go_at_call 17; refine (hadd _ t2).mono ?_; rintro e w7 ⟨S', n', k', nd', pl', st', gN', cN2, gX', cX', fX', aA', cA', rfl, t7, h7, h8'⟩))
  go_end0
  exact ⟨S', n', k', nd', pl', st', gN', cN2, gX', cX', fX', aA', cA', rfl, (t2.mono (fun _ _ y => y.elim)).trans t7 (fun _ _ y => y), h7⟩

/-- What a slice of ints reads as. -/
def Reads (w : World) (a : Option Addr) (l : Nat) (z : Nat → Int) : Prop := 0 < l → ∃ b o, a = some ⟨b, o, none⟩ ∧ ∀ j, j < l → w.cell? ⟨b, o + j, none⟩ = some (.int .i64 (z j))
theorem Reads.turn {w w' : World} {a : Option Addr} {l : Nat} {z : Nat → Int} (h : Reads w a l z) {A : Nat → Prop} (t : Turn A w w') (hA : ∀ b o, a = some ⟨b, o, none⟩ → ¬ A b) : Reads w' a l z := by
  intro hl
  obtain ⟨b, o, e, hc⟩ := h hl
  exact ⟨b, o, e, fun j hj => t.cell (hc j hj) (hA b o e)⟩

set_option maxHeartbeats 400000 in
theorem clone_any (aW : Option Addr) (lw cw : Nat) (z : Nat → Int) (w : World) (h : Reads w aW lw z) (hn : lw ≤ 5000) :
    Calls Ybad.prog 12 #[.slice aW lw cw] w fun e w' => ∃ aK cK, e = .returned (.slice aK lw cK) ∧ Turn (fun _ => False) w w' ∧ Reads w' aK lw z ∧ (∀ b o, aK = some ⟨b, o, none⟩ → w.heap.size ≤ b) := by
  obtain ⟨i0, i1, i2, i3, i4⟩ := info_parts info3
  cases aW with
  | none =>
    obtain rfl : lw = 0 := by
      rcases Nat.eq_zero_or_pos lw with e | e
      · exact e
      · obtain ⟨b, o, e2, _⟩ := h e
        cases e2
    have n22 := fun wx => Lib.run_eql_slice_nil (P := Ybad.prog) wx 26 3 none 0 cw 0 0 Ybad.underlying26
    go_enter Ybad.func12, Ybad.ntmps12
    go_wp2
    go_ret
    exact ⟨none, 0, rfl, Turn.refl _ _, fun hl => absurd hl (by omega), fun b o e => by cases e⟩
  | some x =>
    have n22 := fun wx => Lib.run_eql_slice_nil (P := Ybad.prog) wx 26 3 (some x) lw cw 0 0 Ybad.underlying26
    have HN : Hid (∀ j u, ((List.range lw).map (fun j => Value.int .i64 (z j)))[j]? = some u → (w.alloc (.cells #[] 3)).cell? (x.add j) = some u) := by
      intro j u hu
      obtain ⟨hj, rfl⟩ := List.getElem?_eq_some_iff.1 hu
      simp at hj
      obtain ⟨b, o, e, hc⟩ := h (by omega)
      cases e
      rw [WideShapes.add_plain]
      simpa using ((Turn.refl (fun _ => False) w).alloc (.cells #[] 3)).cell (hc j hj) (fun y => y)
    have HS : Hid ((w.alloc (.cells #[] 3)).ownsRow 0 3 1 (.slice (some ⟨w.heap.size, 0, none⟩) 0 0) 0 []) := ⟨rfl, .inr ⟨w.heap.size, 0, #[], rfl, Nat.zero_le _, heap_alloc_new w _, Nat.le_refl _, Nat.zero_le _, rfl, rfl⟩⟩
    have hm : 0 + lw ≤ maxLen := by unfold maxLen; omega
    clear h
    go_enter Ybad.func12, Ybad.ntmps12
    go_wp2_with (at_builtin; refine wpList_append_own_at _ rfl (.tmp 5) (.tmp 6) 26 rfl 0 3 i0 (.int .i64 0) 1 8 Ybad.underlying26 i1 i2 i3 i4 rfl (by omega) (.slice (some ⟨w.heap.size, 0, none⟩) 0 0) 0 [] rfl HS.out x lw cw ((List.range lw).map (fun j => Value.int .i64 (z j))) rfl (by simp) HN.out (by intro u hu; simp only [List.mem_map] at hu; obtain ⟨j, _, rfl⟩ := hu; rfl) hm (by omega) (Nat.zero_le _) ?_; intro v' w' own' gr' nil' loc')
    go_ret
    obtain ⟨g', cap', e', s'⟩ := SlI.ofOwns (f := fun j => .int .i64 (z j)) own' (fun e => by have := (nil'.1 e).1; cases this) (by
      intro j hj
      have hj' : j < lw := by omega
      simp [hj'])
    subst e'
    have hg : g' = w.heap.size ∨ g' = w.heap.size + 1 := by
      rcases loc' with e | e
      · left; simpa [Value.ownBlock] using e
      · right; simpa [Value.ownBlock] using e
    refine ⟨some ⟨g', 0, none⟩, cap', by simp, ?_, fun hl => ⟨g', 0, rfl, fun j hj => ?_⟩, fun b o e => ?_⟩
    · refine ((Turn.refl (fun _ => False) w).alloc _).trans ((Turn.refl (fun k => k = w.heap.size) _).grown gr' (fun k hk => .inr ?_)) (fun i hi e => by omega)
      simpa [Value.ownBlock] using hk.symm
    · rw [Nat.zero_add]
      exact s'.cell (by omega)
    · cases e
      omega

set_option maxHeartbeats 1000000 in
theorem equal_any (a1 : Option Addr) (c1 : Nat) (a2 : Option Addr) (c2 l : Nat) (z : Nat → Int) (w : World) (h1 : Reads w a1 l z) (h2 : Reads w a2 l z) (hn : l ≤ 100000) :
    Calls Ybad.prog 13 #[.slice a1 l c1, .slice a2 l c2] w fun e w' => e = .returned (.bool true) ∧ Turn (fun _ => False) w w' := by
  have H1 : Hid (Reads w a1 l z) := h1
  have H2 : Hid (Reads w a2 l z) := h2
  clear h1 h2
  go_enter Ybad.func13, Ybad.ntmps13
  go_wp2
  go_loopg [13] l (fun gk i wr => ∃ m : Nat, m ≤ l ∧ gk = l - m ∧ i = .int .i64 m ∧ Turn (fun _ => False) w wr)
  case atStart => exact ⟨0, by omega, rfl, rfl, Turn.refl _ _⟩
  case round =>
    obtain ⟨m, hmn, hgk, rfl, hT⟩ := hrel
    by_cases hlt : m < l
    · obtain ⟨b1, o1, rfl, k1⟩ := H1.out (by omega)
      obtain ⟨b2, o2, rfl, k2⟩ := H2.out (by omega)
      have k1 := hT.cell (k1 m hlt) (fun y => y)
      have k2 := hT.cell (k2 m hlt) (fun y => y)
      have i0 : (0 : Int) ≤ (m : Int) := by omega
      have i1 : (m : Int) < (l : Int) := by omega
      go_wp2
      go_quiet (fail)
      go_wp2
      go_roundg (l - (m + 1))
      case measure => omega
      case rel => exact ⟨m + 1, by omega, rfl, by go_num, hT.drewN _⟩
    · go_wp2
      go_ret
      exact ⟨rfl, hT⟩
end Go.Proofs.YbulkegnmDoor
