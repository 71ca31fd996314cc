import Derived.Test.YbulkegnmDoorR
namespace Go.Proofs.YbulkegnmDoor
open Go Go.RowKit

/-- A slice of the call's own over one-cell elements, or nil. -/
def OwnI (w : World) (E : TypeId) (a : Option Addr) (n cap : Nat) (f : Nat → Value) : Prop := (a = none ∧ n = 0 ∧ cap = 0) ∨ ∃ g, a = some ⟨g, 0, none⟩ ∧ SlI w E g n cap f
namespace OwnI
variable {w w' : World} {E : TypeId} {a : Option Addr} {n cap : Nat} {f : Nat → Value}
theorem owns (h : OwnI w E a n cap f) : w.ownsRow 0 E 1 (.slice a n cap) n ((List.range n).map f) := by
  rcases h with ⟨rfl, rfl, rfl⟩ | ⟨g, rfl, h⟩
  · exact ⟨rfl, .inl ⟨rfl, rfl⟩⟩
  · exact h.owns
theorem turn {A : Nat → Prop} (h : OwnI w E a n cap f) (t : Turn A w w') (ha : ∀ g, a = some ⟨g, 0, none⟩ → ¬ A g) : OwnI w' E a n cap f := by
  rcases h with h | ⟨g, rfl, h⟩
  · exact .inl h
  · exact .inr ⟨g, rfl, h.turn t (ha g rfl)⟩
theorem le (h : OwnI w E a n cap f) : n ≤ cap ∧ cap ≤ maxLen := by
  rcases h with ⟨_, rfl, rfl⟩ | ⟨g, _, h⟩
  · exact ⟨Nat.le_refl _, Nat.zero_le _⟩
  · exact h.le
theorem lt (h : OwnI w E a n cap f) : ∀ g, a = some ⟨g, 0, none⟩ → g < w.heap.size := by
  intro g e
  rcases h with ⟨e2, _, _⟩ | ⟨g', e2, h⟩
  · rw [e2] at e; cases e
  · rw [e2] at e; cases e; exact h.lt
theorem ne {b n' : Nat} {T' : TypeId} {f' : Nat → Value} (h : OwnI w E a n cap f) (h' : w.rowIs b T' n' f') (hT : E ≠ T') : ∀ g, a = some ⟨g, 0, none⟩ → g ≠ b := by
  intro g e
  rcases h with ⟨e2, _, _⟩ | ⟨g', e2, h⟩
  · rw [e2] at e; cases e
  · rw [e2] at e; cases e; exact sl_ne h h' hT
end OwnI
theorem sl_sl_ne {w : World} {b g n n' cp cp' : Nat} {T T' : TypeId} {f f' : Nat → Value} (h : SlI w T b n cp f) (h' : SlI w T' g n' cp' f') (hT : T ≠ T') : b ≠ g := by
  obtain ⟨_, _, c, hb, _⟩ := h
  obtain ⟨_, _, c', hb', _⟩ := h'
  intro e
  subst e
  rw [hb] at hb'
  cases hb'
  exact hT rfl

/-- 'x = append(x, ys...)' onto a slice of the call's own, or nil: one-cell elements, at a plain region's operation; something is appended. -/
theorem wpList_append_ow {P : Program} (w : World) {ops : Array Oper} {rest : List Oper} {o : Oper} {a : Act} {Q : Exit → Act → World → Prop} (hgd : o.guard = none) (s x : Operand) (t : TypeId)
    (ho : o.op = .call { callee := .builtin .append, args := #[s, x], argTypes := #[t, t] })
    (E : TypeId) (i : TypeInfo) (z : Value) (bytes : Nat) (ht : P.underlying t = some (.slice E)) (hi : P.info? E = some i) (hz : i.zero = some z) (hsize : i.size = 1) (hby : i.bytes = bytes) (hzs : z.cells.size = 1)
    (ad : Option Addr) (n cap : Nat) (f : Nat → Value) (hs : a.eval s = .slice ad n cap) (hsl : OwnI w E ad n cap f)
    (B off m c : Nat) (h : Nat → Value) (hx : a.eval x = .slice (some ⟨B, off, none⟩) m c) (hnews : ∀ j, j < m → w.cell? ⟨B, off + j, none⟩ = some (h j)) (h1 : ∀ j, j < m → (h j).oneCell' = true) (hm : 0 < m)
    (h63 : n + m ≤ maxLen) (hbytes : (n + m) * bytes ≤ 140737488355328) (H : Nat) (hH : w.heap.size = H)
    (hK : ∀ g' cap' w', SlI w' E g' (n + m) cap' (fun j => if j < n then f j else h (j - n)) → Turn (fun k => ad = some ⟨k, 0, none⟩) w w' → (ad = some ⟨g', 0, none⟩ ∨ g' = H) → wpList P ops Q rest (a.put o.dst (.slice (some ⟨g', 0, none⟩) (n + m) cap')) w') :
    wpList P ops Q (o :: rest) a w := by
  refine wpList_append_own_at w hgd s x t ho 0 E i z 1 bytes ht hi hz hsize hby hzs (by omega) _ n _ hs hsl.owns ⟨B, off, none⟩ m c ((List.range m).map h) hx (by simp) ?_ ?_ h63 hbytes (Nat.zero_le _) ?_
  · intro j u hu
    obtain ⟨hj, rfl⟩ := List.getElem?_eq_some_iff.1 hu
    simp at hj
    rw [WideShapes.add_plain]
    simpa using hnews j hj
  · intro u hu
    simp only [List.mem_map, List.mem_range] at hu
    obtain ⟨j, hj, rfl⟩ := hu
    exact h1 j hj
  · intro v' w' hown hgrow hnil hloc
    obtain ⟨g', cap', rfl, hsl'⟩ := SlI.ofOwns (f := fun j => if j < n then f j else h (j - n)) hown (fun e => by have := (hnil.1 e).2; omega) (by
      intro j hj
      by_cases hjn : j < n
      · rw [if_pos hjn, List.getElem?_append_left (by simpa using hjn)]
        simp [hjn]
      · rw [if_neg hjn, List.getElem?_append_right (by simp; omega), List.length_map, List.length_range, List.getElem?_map, List.getElem?_range (by omega)]
        rfl)
    have hob : ∀ k, (Value.slice ad n cap).ownBlock = some k → ad = some ⟨k, 0, none⟩ := by
      intro k hk
      rcases hsl with ⟨rfl, _, _⟩ | ⟨g, rfl, _⟩
      · cases hk
      · simp [Value.ownBlock] at hk; rw [hk]
    refine hK g' cap' w' hsl' ?_ ?_
    · exact (Turn.refl (fun k => ad = some ⟨k, 0, none⟩) w).grown hgrow (fun k hk => .inr (hob k hk))
    · rcases hloc with e | e
      · left
        exact hob g' (by rw [← e]; rfl)
      · right; rw [← hH]; simpa [Value.ownBlock] using e

/-- A search under way: the reach at O; its table holds E; nodes N, arcs A, next (nX of them); all its blocks are in M. -/
structure Sr (w : World) (M : Nat → Prop) (O S n k cur : Nat) (nd pl : Nat → Int) (st : Nat → Nat) (E : List (Int × Int)) (N A : List Int) (gN cN : Nat) (aX : Option Addr) (nX cX : Nat) (fX : Nat → Value) (aA : Option Addr) (cA : Nat) (R : Int) (b : Bool) : Prop where
  tb : Tb w O S n k cur nd pl st E (.slice (some ⟨gN, 0, none⟩) N.length cN) (.slice aX nX cX) (.slice aA A.length cA) (.int .i64 R) (.bool b)
  sn : SlI w 3 gN N.length cN (fun i => .int .i64 (N.getD i 0))
  sx : OwnI w 26 aX nX cX fX
  sa : OwnI w 3 aA A.length cA (fun i => .int .i64 (A.getD i 0))
  na : ∀ g, aA = some ⟨g, 0, none⟩ → g ≠ gN
  mO : M O
  mS : M S
  mN : M gN
  mX : ∀ g, aX = some ⟨g, 0, none⟩ → M g
  mA : ∀ g, aA = some ⟨g, 0, none⟩ → M g
namespace Sr
variable {w w' w1 : World} {M : Nat → Prop} {O S n k cur : Nat} {nd pl : Nat → Int} {st : Nat → Nat} {E : List (Int × Int)} {N A : List Int} {gN cN : Nat} {aX : Option Addr} {nX cX : Nat} {fX : Nat → Value} {aA : Option Addr} {cA : Nat} {R : Int} {b : Bool}
/-- Nothing of the search has turned. -/
theorem turn (h : Sr w M O S n k cur nd pl st E N A gN cN aX nX cX fX aA cA R b) (t : Turn (fun _ => False) w w') : Sr w' M O S n k cur nd pl st E N A gN cN aX nX cX fX aA cA R b :=
  ⟨h.tb.turn t (fun y => y) (fun y => y), h.sn.turn t (fun y => y), h.sx.turn t (fun _ _ y => y), h.sa.turn t (fun _ _ y => y), h.na, h.mO, h.mS, h.mN, h.mX, h.mA⟩
/-- Behind placeOf. -/
theorem place (h : Sr w M O S n k cur nd pl st E N A gN cN aX nX cX fX aA cA R b) (t : Turn (fun c => c = O ∨ c = S) w w') {S' n' k' : Nat} {nd' pl' : Nat → Int} {st' : Nat → Nat} {E' : List (Int × Int)}
    (hB : Tb w' O S' n' k' cur nd' pl' st' E' (.slice (some ⟨gN, 0, none⟩) N.length cN) (.slice aX nX cX) (.slice aA A.length cA) (.int .i64 R) (.bool b)) (hS : M S') : Sr w' M O S' n' k' cur nd' pl' st' E' N A gN cN aX nX cX fX aA cA R b :=
  ⟨hB, h.sn.turn t (fun y => by rcases y with y | y; exact sl_ne h.sn h.tb.o (by decide) y; exact sl_ne h.sn h.tb.s (by decide) y),
    h.sx.turn t (fun g e y => by rcases y with y | y; exact h.sx.ne h.tb.o (by decide) g e y; exact h.sx.ne h.tb.s (by decide) g e y),
    h.sa.turn t (fun g e y => by rcases y with y | y; exact h.sa.ne h.tb.o (by decide) g e y; exact h.sa.ne h.tb.s (by decide) g e y), h.na, h.mO, hS, h.mN, h.mX, h.mA⟩
/-- Behind 's.nodes = append(s.nodes, x)'. -/
theorem pushN (h : Sr w M O S n k cur nd pl st E N A gN cN aX nX cX fX aA cA R b) (t : Turn (fun c => c = gN) w w1) (x : Int) {g' c' : Nat} {f' : Nat → Value} (s1 : SlI w1 3 g' (N.length + 1) c' f') (hf : ∀ i, i < N.length + 1 → f' i = .int .i64 ((N ++ [x]).getD i 0)) (hg : g' = gN ∨ w.heap.size ≤ g') (hM : M g') :
    Sr (w1.setCell ⟨O, 4, none⟩ (.slice (some ⟨g', 0, none⟩) (N.length + 1) c')) M O S n k cur nd pl st E (N ++ [x]) A g' c' aX nX cX fX aA cA R b := by
  have hl : (N ++ [x]).length = N.length + 1 := by simp
  have nO : O ≠ gN := fun e => sl_ne h.sn h.tb.o (by decide) e.symm
  have nS : S ≠ gN := fun e => sl_ne h.sn h.tb.s (by decide) e.symm
  have o1 := t.row h.tb.o nO
  have sS := t.row h.tb.s nS
  have t2 : Turn (fun c => c = O) w1 (w1.setCell ⟨O, 4, none⟩ (.slice (some ⟨g', 0, none⟩) (N.length + 1) c')) := (Turn.refl (fun c => c = O) _).setCell (p := ⟨O, 4, none⟩) (.inr rfl) _
  have xg : OwnI w1 26 aX nX cX fX := h.sx.turn t (fun g e y => by
    rcases h.sx with ⟨e2, _, _⟩ | ⟨g2, e2, hs2⟩
    · rw [e2] at e; cases e
    · rw [e2] at e; cases e; exact sl_sl_ne hs2 h.sn (by decide) y)
  have ag : OwnI w1 3 aA A.length cA (fun i => .int .i64 (A.getD i 0)) := h.sa.turn t (fun g e y => h.na g e y)
  refine ⟨⟨by rw [hl]; exact re_v4 o1 _, t2.row sS (fun e => row_ne o1 sS (by decide) e.symm), h.tb.nk, h.tb.k4, h.tb.k15, h.tb.inv, h.tb.le, h.tb.c0, h.tb.c1, h.tb.half⟩, ?_, xg.turn t2 (fun g e y => xg.ne o1 (by decide) g e y), ag.turn t2 (fun g e y => ag.ne o1 (by decide) g e y), ?_, h.mO, h.mS, hM, h.mX, h.mA⟩
  · rw [hl]
    exact (s1.congr hf).turn t2 (fun e => sl_ne s1 o1 (by decide) e)
  · intro g e
    rcases hg with hg | hg
    · rw [hg]; exact h.na g e
    · have := h.sa.lt g e
      omega
/-- Behind 's.arcs = append(s.arcs, p)'. -/
theorem pushA (h : Sr w M O S n k cur nd pl st E N A gN cN aX nX cX fX aA cA R b) (t : Turn (fun c => aA = some ⟨c, 0, none⟩) w w1) (x : Int) {g' c' : Nat} {f' : Nat → Value} (s1 : SlI w1 3 g' (A.length + 1) c' f') (hf : ∀ i, i < A.length + 1 → f' i = .int .i64 ((A ++ [x]).getD i 0)) (hg : aA = some ⟨g', 0, none⟩ ∨ w.heap.size ≤ g') (hM : M g') :
    Sr (w1.setCell ⟨O, 6, none⟩ (.slice (some ⟨g', 0, none⟩) (A.length + 1) c')) M O S n k cur nd pl st E N (A ++ [x]) gN cN aX nX cX fX (some ⟨g', 0, none⟩) c' R b := by
  have hl : (A ++ [x]).length = A.length + 1 := by simp
  have o1 := t.row h.tb.o (fun e => h.sa.ne h.tb.o (by decide) _ e rfl)
  have sS := t.row h.tb.s (fun e => h.sa.ne h.tb.s (by decide) _ e rfl)
  have t2 : Turn (fun c => c = O) w1 (w1.setCell ⟨O, 6, none⟩ (.slice (some ⟨g', 0, none⟩) (A.length + 1) c')) := (Turn.refl (fun c => c = O) _).setCell (p := ⟨O, 6, none⟩) (.inr rfl) _
  have xg : OwnI w1 26 aX nX cX fX := h.sx.turn t (fun g e y => by
    rcases h.sx with ⟨e2, _, _⟩ | ⟨g2, e2, hs2⟩
    · rw [e2] at e; cases e
    · rw [e2] at e; cases e
      rcases h.sa with ⟨e3, _, _⟩ | ⟨g3, e3, hs3⟩
      · rw [e3] at y; cases y
      · rw [e3] at y; cases y; exact sl_sl_ne hs2 hs3 (by decide) rfl)
  have ng : SlI w1 3 gN N.length cN (fun i => .int .i64 (N.getD i 0)) := h.sn.turn t (fun e => h.na gN e rfl)
  refine ⟨⟨by rw [hl]; exact re_v6 o1 _, t2.row sS (fun e => row_ne o1 sS (by decide) e.symm), h.tb.nk, h.tb.k4, h.tb.k15, h.tb.inv, h.tb.le, h.tb.c0, h.tb.c1, h.tb.half⟩, ng.turn t2 (fun e => sl_ne ng o1 (by decide) e), xg.turn t2 (fun g e y => xg.ne o1 (by decide) g e y), .inr ⟨g', rfl, ?_⟩, ?_, h.mO, h.mS, h.mN, h.mX, ?_⟩
  · rw [hl]
    exact (s1.congr hf).turn t2 (fun e => sl_ne s1 o1 (by decide) e)
  · intro g e
    cases e
    rcases hg with hg | hg
    · exact h.na g' hg
    · have := h.sn.lt
      omega
  · intro g e
    cases e
    exact hM
/-- Behind 's.next = append(s.next, ..)'. -/
theorem pushX (h : Sr w M O S n k cur nd pl st E N A gN cN aX nX cX fX aA cA R b) (t : Turn (fun c => aX = some ⟨c, 0, none⟩) w w1) {g' c' : Nat} {f' : Nat → Value} (s1 : SlI w1 26 g' (nX + 1) c' f') (hM : M g') :
    Sr (w1.setCell ⟨O, 5, none⟩ (.slice (some ⟨g', 0, none⟩) (nX + 1) c')) M O S n k cur nd pl st E N A gN cN (some ⟨g', 0, none⟩) (nX + 1) c' f' aA cA R b := by
  have o1 := t.row h.tb.o (fun e => h.sx.ne h.tb.o (by decide) _ e rfl)
  have sS := t.row h.tb.s (fun e => h.sx.ne h.tb.s (by decide) _ e rfl)
  have t2 : Turn (fun c => c = O) w1 (w1.setCell ⟨O, 5, none⟩ (.slice (some ⟨g', 0, none⟩) (nX + 1) c')) := (Turn.refl (fun c => c = O) _).setCell (p := ⟨O, 5, none⟩) (.inr rfl) _
  have ng : SlI w1 3 gN N.length cN (fun i => .int .i64 (N.getD i 0)) := h.sn.turn t (fun e => by
    rcases h.sx with ⟨e2, _, _⟩ | ⟨g2, e2, hs2⟩
    · rw [e2] at e; cases e
    · rw [e2] at e; cases e; exact sl_sl_ne hs2 h.sn (by decide) rfl)
  have ag : OwnI w1 3 aA A.length cA (fun i => .int .i64 (A.getD i 0)) := h.sa.turn t (fun g e y => by
    rcases h.sx with ⟨e2, _, _⟩ | ⟨g2, e2, hs2⟩
    · rw [e2] at y; cases y
    · rw [e2] at y; cases y
      rcases h.sa with ⟨e3, _, _⟩ | ⟨g3, e3, hs3⟩
      · rw [e3] at e; cases e
      · rw [e3] at e; cases e; exact sl_sl_ne hs2 hs3 (by decide) rfl)
  refine ⟨⟨re_v5 o1 _, t2.row sS (fun e => row_ne o1 sS (by decide) e.symm), h.tb.nk, h.tb.k4, h.tb.k15, h.tb.inv, h.tb.le, h.tb.c0, h.tb.c1, h.tb.half⟩, ng.turn t2 (fun e => sl_ne ng o1 (by decide) e), .inr ⟨g', rfl, s1.turn t2 (fun e => sl_ne s1 o1 (by decide) e)⟩, ag.turn t2 (fun g e y => ag.ne o1 (by decide) g e y), h.na, h.mO, h.mS, h.mN, ?_, h.mA⟩
  intro g e
  cases e
  exact hM
/-- Behind a store to s.read or s.intoRoot. -/
theorem setR (h : Sr w M O S n k cur nd pl st E N A gN cN aX nX cX fX aA cA R b) (R' : Int) : Sr (w.setCell ⟨O, 7, none⟩ (.int .i64 R')) M O S n k cur nd pl st E N A gN cN aX nX cX fX aA cA R' b := by
  have t2 : Turn (fun c => c = O) w (w.setCell ⟨O, 7, none⟩ (.int .i64 R')) := (Turn.refl (fun c => c = O) _).setCell (p := ⟨O, 7, none⟩) (.inr rfl) _
  exact ⟨⟨re_v7 h.tb.o _, t2.row h.tb.s (fun e => h.tb.ne e.symm), h.tb.nk, h.tb.k4, h.tb.k15, h.tb.inv, h.tb.le, h.tb.c0, h.tb.c1, h.tb.half⟩, h.sn.turn t2 (fun e => sl_ne h.sn h.tb.o (by decide) e), h.sx.turn t2 (fun g e y => h.sx.ne h.tb.o (by decide) g e y), h.sa.turn t2 (fun g e y => h.sa.ne h.tb.o (by decide) g e y), h.na, h.mO, h.mS, h.mN, h.mX, h.mA⟩
theorem setI (h : Sr w M O S n k cur nd pl st E N A gN cN aX nX cX fX aA cA R b) (b' : Bool) : Sr (w.setCell ⟨O, 8, none⟩ (.bool b')) M O S n k cur nd pl st E N A gN cN aX nX cX fX aA cA R b' := by
  have t2 : Turn (fun c => c = O) w (w.setCell ⟨O, 8, none⟩ (.bool b')) := (Turn.refl (fun c => c = O) _).setCell (p := ⟨O, 8, none⟩) (.inr rfl) _
  exact ⟨⟨re_v8 h.tb.o _, t2.row h.tb.s (fun e => h.tb.ne e.symm), h.tb.nk, h.tb.k4, h.tb.k15, h.tb.inv, h.tb.le, h.tb.c0, h.tb.c1, h.tb.half⟩, h.sn.turn t2 (fun e => sl_ne h.sn h.tb.o (by decide) e), h.sx.turn t2 (fun g e y => h.sx.ne h.tb.o (by decide) g e y), h.sa.turn t2 (fun g e y => h.sa.ne h.tb.o (by decide) g e y), h.na, h.mO, h.mS, h.mN, h.mX, h.mA⟩
end Sr
end Go.Proofs.YbulkegnmDoor
