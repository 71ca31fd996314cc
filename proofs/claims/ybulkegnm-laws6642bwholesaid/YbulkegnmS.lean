import Derived.Test.YbulkegnmProg
import Derived.Test.YbulkegnmChain
import Derived.Test.YbulkegnmSl
import Derived.WalkLawsBesides
import Derived.Deep.CutRange
import Derived.BigRegion
namespace Go.Proofs.Ybulkegnm
open Go Go.RowKit

theorem row_ne {w : World} {b g n n' : Nat} {T T' : TypeId} {f f' : Nat → Value} (h : w.rowIs b T n f) (h' : w.rowIs g T' n' f') (hT : T ≠ T') : b ≠ g := by
  obtain ⟨c, hb, _⟩ := h
  obtain ⟨c', hb', _⟩ := h'
  intro e
  subst e
  rw [hb] at hb'
  cases hb'
  exact hT rfl
/-- Block g bears cells of type E. -/
def TyIs (w : World) (g : Nat) (E : TypeId) : Prop := ∃ c, w.heap[g]? = some (.cells c E (0, 0))
theorem TyIs.ne {w : World} {b g : Nat} {T T' : TypeId} (h : TyIs w b T) (h' : TyIs w g T') (hT : T ≠ T') : b ≠ g := by
  obtain ⟨c, hb⟩ := h
  obtain ⟨c', hb'⟩ := h'
  intro e
  subst e
  rw [hb] at hb'
  cases hb'
  exact hT rfl
theorem rowTy {w : World} {b n : Nat} {T : TypeId} {f : Nat → Value} (h : w.rowIs b T n f) : TyIs w b T := by
  obtain ⟨c, hb, _⟩ := h
  exact ⟨c, hb⟩
/-- A slice of the call's own over elements of k cells, or nil. -/
def OwK (w : World) (E : TypeId) (k : Nat) (a : Option Addr) (n cap : Nat) (f : Nat → Value) : Prop := (a = none ∧ n = 0 ∧ cap = 0) ∨ ∃ g, a = some ⟨g, 0, none⟩ ∧ n ≤ cap ∧ cap ≤ maxLen ∧ ∃ cur : Array Value, w.heap[g]? = some (.cells cur E (0, 0)) ∧ cur.size = cap * k ∧ ∀ i, i < n * k → cur[i]? = some (f i)
namespace OwK
variable {w w' : World} {E : TypeId} {k : Nat} {a : Option Addr} {n cap : Nat} {f f' : Nat → Value}
theorem ty (h : OwK w E k a n cap f) : ∀ g, a = some ⟨g, 0, none⟩ → TyIs w g E := by
  intro g e
  rcases h with ⟨e2, _⟩ | ⟨g', e2, _, _, cur, hb, _⟩
  · rw [e2] at e; cases e
  · rw [e2] at e; cases e; exact ⟨cur, hb⟩
theorem lt (h : OwK w E k a n cap f) : ∀ g, a = some ⟨g, 0, none⟩ → g < w.heap.size := by
  intro g e
  obtain ⟨c, hb⟩ := h.ty g e
  exact (Array.getElem?_eq_some_iff.1 hb).1
theorem turn {A : Nat → Prop} (h : OwK w E k a n cap f) (t : Turn A w w') (ha : ∀ g, a = some ⟨g, 0, none⟩ → ¬ A g) : OwK w' E k a n cap f := by
  rcases h with h | ⟨g, e, h1, h2, cur, hb, h3⟩
  · exact .inl h
  · exact .inr ⟨g, e, h1, h2, cur, (t.block g (Array.getElem?_eq_some_iff.1 hb).1 (ha g e)).trans hb, h3⟩
theorem congr (h : OwK w E k a n cap f) (e : ∀ i, i < n * k → f i = f' i) : OwK w E k a n cap f' := by
  rcases h with h | ⟨g, ha, h1, h2, cur, hb, h3, h4⟩
  · exact .inl h
  · exact .inr ⟨g, ha, h1, h2, cur, hb, h3, fun i hi => by rw [h4 i hi, e i hi]⟩
theorem less (h : OwK w E k a n cap f) {m : Nat} (hm : m ≤ n) : OwK w E k a m cap f := by
  rcases h with ⟨e1, e2, e3⟩ | ⟨g, ha, h1, h2, cur, hb, h3, h4⟩
  · exact .inl ⟨e1, by omega, e3⟩
  · exact .inr ⟨g, ha, by omega, h2, cur, hb, h3, fun i hi => h4 i (Nat.lt_of_lt_of_le hi (Nat.mul_le_mul_right k hm))⟩
theorem cell (h : OwK w E k a n cap f) {i : Nat} (hi : i < n * k) : ∃ g, a = some ⟨g, 0, none⟩ ∧ w.cell? ⟨g, i, none⟩ = some (f i) ∧ w.frozen? ⟨g, i, none⟩ = false := by
  rcases h with ⟨_, e, _⟩ | ⟨g, ha, h1, h2, cur, hb, h3, h4⟩
  · subst e; omega
  · exact ⟨g, ha, by simp [World.cell?, hb, h4 i hi], by simp [World.frozen?, hb]⟩
theorem le (h : OwK w E k a n cap f) : n ≤ cap ∧ cap ≤ maxLen := by
  rcases h with ⟨_, e1, e2⟩ | ⟨g, _, h1, h2, _⟩
  · rw [e1, e2]; exact ⟨Nat.le_refl _, Nat.zero_le _⟩
  · exact ⟨h1, h2⟩
theorem owns (h : OwK w E k a n cap f) : w.ownsRow 0 E k (.slice a n cap) n ((List.range (n * k)).map f) := by
  rcases h with ⟨rfl, rfl, rfl⟩ | ⟨g, rfl, h1, h2, cur, hb, h3, h4⟩
  · exact ⟨by simp, .inl ⟨rfl, rfl⟩⟩
  · refine ⟨by simp, .inr ⟨g, cap, cur, rfl, Nat.zero_le _, hb, h1, h2, h3, ?_⟩⟩
    apply List.ext_getElem?
    intro i
    by_cases hi : i < n * k
    · have := h4 i hi
      simp [hi]
      simpa using this
    · simp [List.getElem?_take, hi]
/-- A store into the row. -/
theorem set {g : Nat} (h : OwK w E k (some ⟨g, 0, none⟩) n cap f) (i : Nat) (v : Value) (f' : Nat → Value) (hf' : ∀ j, j < n * k → f' j = if j = i then v else f j) : OwK (w.setCell ⟨g, i, none⟩ v) E k (some ⟨g, 0, none⟩) n cap f' := by
  rcases h with ⟨e, _⟩ | ⟨g', e, h1, h2, cur, hb, h3, h4⟩
  · cases e
  · cases e
    refine .inr ⟨g, rfl, h1, h2, cur.setIfInBounds i v, ?_, by simpa using h3, fun j hj => ?_⟩
    · simp [World.setCell, Array.getElem?_modify, hb]
    · have hlt : j < cur.size := by rw [h3]; exact Nat.lt_of_lt_of_le hj (Nat.mul_le_mul_right k h1)
      rw [Array.getElem?_setIfInBounds, hf' j hj]
      by_cases e : j = i
      · subst e
        rw [if_pos rfl, if_pos rfl, if_pos hlt]
      · rw [if_neg (fun h => e h.symm), if_neg e]
        exact h4 j hj
end OwK
/-- 'x = append(x, y)' onto a slice of the call's own, or nil: elements of k cells, one appended, at a plain region's operation. -/
theorem wpList_append_k {P : Program} (w : World) {ops : Array Oper} {rest : List Oper} {o : Oper} {a : Act} {Q : Exit → Act → World → Prop} (hgd : o.guard = none) (s x : Operand) (t : TypeId)
    (ho : o.op = .call { callee := .builtin .append, args := #[s, x], argTypes := #[t, t] })
    (E : TypeId) (i : TypeInfo) (z : Value) (k bytes : Nat) (ht : P.underlying t = some (.slice E)) (hi : P.info? E = some i) (hz : i.zero = some z) (hsize : i.size = k) (hby : i.bytes = bytes) (hzs : z.cells.size = k) (hk : 0 < k)
    (ad : Option Addr) (n cap : Nat) (f : Nat → Value) (hs : a.eval s = .slice ad n cap) (hsl : OwK w E k ad n cap f)
    (B c : Nat) (h : Nat → Value) (hx : a.eval x = .slice (some ⟨B, 0, none⟩) 1 c) (hnews : ∀ j, j < k → w.cell? ⟨B, j, none⟩ = some (h j)) (h1 : ∀ j, j < k → (h j).oneCell' = true)
    (h63 : n + 1 ≤ maxLen) (hbytes : (n + 1) * bytes ≤ 140737488355328) (H : Nat) (hH : w.heap.size = H)
    (hK : ∀ g' cap' w', OwK w' E k (some ⟨g', 0, none⟩) (n + 1) cap' (fun j => if j < n * k then f j else h (j - n * k)) → Turn (fun k => ad = some ⟨k, 0, none⟩) w w' → (ad = some ⟨g', 0, none⟩ ∨ g' = H) → wpList P ops Q rest (a.put o.dst (.slice (some ⟨g', 0, none⟩) (n + 1) cap')) w') :
    wpList P ops Q (o :: rest) a w := by
  refine wpList_append_own_at w hgd s x t ho 0 E i z k bytes ht hi hz hsize hby hzs hk _ n _ hs hsl.owns ⟨B, 0, none⟩ 1 c ((List.range k).map h) hx (by simp) ?_ ?_ h63 hbytes (Nat.zero_le _) ?_
  · intro j u hu
    obtain ⟨hj, rfl⟩ := List.getElem?_eq_some_iff.1 hu
    simp at hj
    rw [WideShapes.add_plain]
    simpa using hnews j hj
  · intro u hu
    simp only [List.mem_map, List.mem_range] at hu
    obtain ⟨j, hj, rfl⟩ := hu
    exact h1 j hj
  · intro v' w' hown hgrow hnil hloc
    have hob : ∀ k, (Value.slice ad n cap).ownBlock = some k → ad = some ⟨k, 0, none⟩ := by
      intro k hk
      rcases hsl with ⟨rfl, _, _⟩ | ⟨g, rfl, _⟩
      · cases hk
      · simp [Value.ownBlock] at hk; rw [hk]
    obtain ⟨hl, hr⟩ := hown
    rcases hr with ⟨hn, _⟩ | ⟨g', cap', cur, rfl, _, hb, g1, g2, g3, g4⟩
    · exact absurd (hnil.1 hn).2 (by omega)
    · refine hK g' cap' w' (.inr ⟨g', rfl, g1, g2, cur, hb, g3, fun j hj => ?_⟩) ?_ ?_
      · have hj2 : j < n * k + k := by rw [Nat.add_mul, Nat.one_mul] at hj; exact hj
        have h5 : (cur.toList.take ((n + 1) * k))[j]? = ((List.range (n * k)).map f ++ (List.range k).map h)[j]? := by rw [g4]
        rw [List.getElem?_take, if_pos hj] at h5
        rw [← Array.getElem?_toList, h5]
        show _ = some (if j < n * k then f j else h (j - n * k))
        by_cases hjn : j < n * k
        · rw [if_pos hjn, List.getElem?_append_left (by simpa using hjn)]
          simp [hjn]
        · rw [if_neg hjn, List.getElem?_append_right (by simp; omega), List.length_map, List.length_range, List.getElem?_map, List.getElem?_range (by omega)]
          rfl
      · exact (Turn.refl (fun k => ad = some ⟨k, 0, none⟩) w).grown hgrow (fun k hk => .inr (hob k hk))
      · rcases hloc with e | e
        · left
          exact hob g' (by rw [← e]; rfl)
        · right; rw [← hH]; simpa [Value.ownBlock] using e

/-- The six cells of a tarjan. -/
def taF (v0 v1 v2 v3 v4 : Value) (c : Nat) : Nat → Value := fun j => if j = 0 then v0 else if j = 1 then v1 else if j = 2 then v2 else if j = 3 then v3 else if j = 4 then v4 else .int .i64 c
def nats (L : List Nat) : Nat → Value := fun i => .int .i64 (L.getD i 0 : Nat)
/-- The cells of the frames. -/
def frs (C : List (Nat × Nat)) : Nat → Value := fun j => if j % 2 = 0 then .int .i64 ((C.getD (j / 2) (0, 0)).1 : Nat) else .int .i64 ((C.getD (j / 2) (0, 0)).2 : Nat)
/-- The state s of the walk, in memory; its blocks are in M; B: the flag's cell. -/
structure Tw (w : World) (M : Nat → Prop) (T gV gL gO B N : Nat) (aS : Option Addr) (cS : Nat) (aC : Option Addr) (cC : Nat) (s : TS) : Prop where
  o : w.rowIs T 57 6 (taF (.slice (some ⟨gV, 0, none⟩) N N) (.slice (some ⟨gL, 0, none⟩) N N) (.slice (some ⟨gO, 0, none⟩) N N) (.slice aS s.stk.length cS) (.slice aC s.calls.length cC) s.cnt)
  v : w.rowIs gV 3 N (fun i => .int .i64 (s.vis i : Nat))
  l : w.rowIs gL 3 N (fun i => .int .i64 (s.low i : Nat))
  on : w.rowIs gO 4 N (fun i => .bool (s.onS i))
  b : w.rowIs B 4 1 (fun _ => .bool s.flag)
  st : OwK w 3 1 aS s.stk.length cS (nats s.stk)
  ca : OwK w 63 2 aC s.calls.length cC (frs s.calls)
  vl : gV ≠ gL
  ob : gO ≠ B
  sv : ∀ g, aS = some ⟨g, 0, none⟩ → g ≠ gV ∧ g ≠ gL
  mT : M T
  mV : M gV
  mL : M gL
  mO : M gO
  mB : M B
  mS : ∀ g, aS = some ⟨g, 0, none⟩ → M g
  mC : ∀ g, aC = some ⟨g, 0, none⟩ → M g
theorem six {j : Nat} (h : j < 6) : j = 0 ∨ j = 1 ∨ j = 2 ∨ j = 3 ∨ j = 4 ∨ j = 5 := by omega
theorem ta3 {w : World} {T c : Nat} {v0 v1 v2 v3 v4 : Value} (h : w.rowIs T 57 6 (taF v0 v1 v2 v3 v4 c)) (u : Value) : (w.setCell ⟨T, 3, none⟩ u).rowIs T 57 6 (taF v0 v1 v2 u v4 c) :=
  row_put h 3 _ _ (fun j hj => by rcases six hj with rfl | rfl | rfl | rfl | rfl | rfl <;> rfl)
theorem ta4 {w : World} {T c : Nat} {v0 v1 v2 v3 v4 : Value} (h : w.rowIs T 57 6 (taF v0 v1 v2 v3 v4 c)) (u : Value) : (w.setCell ⟨T, 4, none⟩ u).rowIs T 57 6 (taF v0 v1 v2 v3 u c) :=
  row_put h 4 _ _ (fun j hj => by rcases six hj with rfl | rfl | rfl | rfl | rfl | rfl <;> rfl)
theorem ta5 {w : World} {T c : Nat} {v0 v1 v2 v3 v4 : Value} (h : w.rowIs T 57 6 (taF v0 v1 v2 v3 v4 c)) (u : Nat) : (w.setCell ⟨T, 5, none⟩ (.int .i64 u)).rowIs T 57 6 (taF v0 v1 v2 v3 v4 u) :=
  row_put h 5 _ _ (fun j hj => by rcases six hj with rfl | rfl | rfl | rfl | rfl | rfl <;> rfl)
namespace Tw
variable {w w' w1 : World} {M : Nat → Prop} {T gV gL gO B N : Nat} {aS : Option Addr} {cS : Nat} {aC : Option Addr} {cC : Nat} {s : TS}
theorem turn (h : Tw w M T gV gL gO B N aS cS aC cC s) (t : Turn (fun _ => False) w w') : Tw w' M T gV gL gO B N aS cS aC cC s :=
  ⟨t.row h.o (fun y => y), t.row h.v (fun y => y), t.row h.l (fun y => y), t.row h.on (fun y => y), t.row h.b (fun y => y), h.st.turn t (fun _ _ y => y), h.ca.turn t (fun _ _ y => y), h.vl, h.ob, h.sv, h.mT, h.mV, h.mL, h.mO, h.mB, h.mS, h.mC⟩
/-- Behind a change of block g alone: the parts in other blocks. -/
theorem keep (h : Tw w M T gV gL gO B N aS cS aC cC s) {g : Nat} (t : Turn (fun c => c = g) w w') :
    (g ≠ T → w'.rowIs T 57 6 (taF (.slice (some ⟨gV, 0, none⟩) N N) (.slice (some ⟨gL, 0, none⟩) N N) (.slice (some ⟨gO, 0, none⟩) N N) (.slice aS s.stk.length cS) (.slice aC s.calls.length cC) s.cnt)) ∧
    (g ≠ gV → w'.rowIs gV 3 N (fun i => .int .i64 (s.vis i : Nat))) ∧ (g ≠ gL → w'.rowIs gL 3 N (fun i => .int .i64 (s.low i : Nat))) ∧ (g ≠ gO → w'.rowIs gO 4 N (fun i => .bool (s.onS i))) ∧ (g ≠ B → w'.rowIs B 4 1 (fun _ => .bool s.flag)) ∧
    ((∀ x, aS = some ⟨x, 0, none⟩ → x ≠ g) → OwK w' 3 1 aS s.stk.length cS (nats s.stk)) ∧ ((∀ x, aC = some ⟨x, 0, none⟩ → x ≠ g) → OwK w' 63 2 aC s.calls.length cC (frs s.calls)) :=
  ⟨fun e => t.row h.o (fun y => e y.symm), fun e => t.row h.v (fun y => e y.symm), fun e => t.row h.l (fun y => e y.symm), fun e => t.row h.on (fun y => e y.symm), fun e => t.row h.b (fun y => e y.symm), fun e => h.st.turn t (fun x hx y => e x hx y), fun e => h.ca.turn t (fun x hx y => e x hx y)⟩
theorem tT (h : Tw w M T gV gL gO B N aS cS aC cC s) : TyIs w T 57 := rowTy h.o
theorem tV (h : Tw w M T gV gL gO B N aS cS aC cC s) : TyIs w gV 3 := rowTy h.v
theorem tL (h : Tw w M T gV gL gO B N aS cS aC cC s) : TyIs w gL 3 := rowTy h.l
theorem tO (h : Tw w M T gV gL gO B N aS cS aC cC s) : TyIs w gO 4 := rowTy h.on
theorem tB (h : Tw w M T gV gL gO B N aS cS aC cC s) : TyIs w B 4 := rowTy h.b
/-- A store into the tarjan itself. -/
theorem inT (h : Tw w M T gV gL gO B N aS cS aC cC s) (p : Nat) (u : Value) {aS' aC' : Option Addr} {cS' cC' : Nat} {s' : TS}
    (ho : (w.setCell ⟨T, p, none⟩ u).rowIs T 57 6 (taF (.slice (some ⟨gV, 0, none⟩) N N) (.slice (some ⟨gL, 0, none⟩) N N) (.slice (some ⟨gO, 0, none⟩) N N) (.slice aS' s'.stk.length cS') (.slice aC' s'.calls.length cC') s'.cnt))
    (hv : s'.vis = s.vis) (hl : s'.low = s.low) (hon : s'.onS = s.onS) (hf : s'.flag = s.flag) (hst : OwK w 3 1 aS' s'.stk.length cS' (nats s'.stk)) (hca : OwK w 63 2 aC' s'.calls.length cC' (frs s'.calls))
    (hsv : ∀ g, aS' = some ⟨g, 0, none⟩ → g ≠ gV ∧ g ≠ gL) (mS : ∀ g, aS' = some ⟨g, 0, none⟩ → M g) (mC : ∀ g, aC' = some ⟨g, 0, none⟩ → M g) : Tw (w.setCell ⟨T, p, none⟩ u) M T gV gL gO B N aS' cS' aC' cC' s' := by
  have t : Turn (fun c => c = T) w (w.setCell ⟨T, p, none⟩ u) := (Turn.refl (fun c => c = T) _).setCell (p := ⟨T, p, none⟩) (.inr rfl) _
  obtain ⟨_, k2, k3, k4, k5, _, _⟩ := h.keep t
  refine ⟨ho, ?_, ?_, ?_, ?_, hst.turn t (fun g e y => (hst.ty g e).ne h.tT (by decide) y), hca.turn t (fun g e y => (hca.ty g e).ne h.tT (by decide) y), h.vl, h.ob, hsv, h.mT, h.mV, h.mL, h.mO, h.mB, mS, mC⟩
  · rw [hv]; exact k2 (h.tT.ne h.tV (by decide))
  · rw [hl]; exact k3 (h.tT.ne h.tL (by decide))
  · rw [hon]; exact k4 (h.tT.ne h.tO (by decide))
  · rw [hf]; exact k5 (h.tT.ne h.tB (by decide))
theorem setCnt (h : Tw w M T gV gL gO B N aS cS aC cC s) (c : Nat) : Tw (w.setCell ⟨T, 5, none⟩ (.int .i64 c)) M T gV gL gO B N aS cS aC cC { s with cnt := c } :=
  h.inT 5 _ (ta5 h.o c) rfl rfl rfl rfl h.st h.ca h.sv h.mS h.mC
theorem setVis (h : Tw w M T gV gL gO B N aS cS aC cC s) (i x : Nat) : Tw (w.setCell ⟨gV, i, none⟩ (.int .i64 x)) M T gV gL gO B N aS cS aC cC { s with vis := upd s.vis i x } := by
  have t : Turn (fun c => c = gV) w (w.setCell ⟨gV, i, none⟩ (.int .i64 x)) := (Turn.refl (fun c => c = gV) _).setCell (p := ⟨gV, i, none⟩) (.inr rfl) _
  obtain ⟨k1, _, k3, k4, k5, k6, k7⟩ := h.keep t
  refine ⟨k1 (h.tV.ne h.tT (by decide)), row_put h.v i _ _ (fun j hj => ?_), k3 h.vl, k4 (h.tV.ne h.tO (by decide)), k5 (h.tV.ne h.tB (by decide)), k6 (fun g e => (h.sv g e).1), k7 (fun g e => (h.ca.ty g e).ne h.tV (by decide)), h.vl, h.ob, h.sv, h.mT, h.mV, h.mL, h.mO, h.mB, h.mS, h.mC⟩
  show Value.int .i64 ((upd s.vis i x j : Nat) : Int) = _
  by_cases e : j = i
  · subst e; rw [upd_same, if_pos rfl]
  · rw [upd_other _ _ e, if_neg e]
theorem setLow (h : Tw w M T gV gL gO B N aS cS aC cC s) (i x : Nat) : Tw (w.setCell ⟨gL, i, none⟩ (.int .i64 x)) M T gV gL gO B N aS cS aC cC { s with low := upd s.low i x } := by
  have t : Turn (fun c => c = gL) w (w.setCell ⟨gL, i, none⟩ (.int .i64 x)) := (Turn.refl (fun c => c = gL) _).setCell (p := ⟨gL, i, none⟩) (.inr rfl) _
  obtain ⟨k1, k2, _, k4, k5, k6, k7⟩ := h.keep t
  refine ⟨k1 (h.tL.ne h.tT (by decide)), k2 (Ne.symm h.vl), row_put h.l i _ _ (fun j hj => ?_), k4 (h.tL.ne h.tO (by decide)), k5 (h.tL.ne h.tB (by decide)), k6 (fun g e => (h.sv g e).2), k7 (fun g e => (h.ca.ty g e).ne h.tL (by decide)), h.vl, h.ob, h.sv, h.mT, h.mV, h.mL, h.mO, h.mB, h.mS, h.mC⟩
  show Value.int .i64 ((upd s.low i x j : Nat) : Int) = _
  by_cases e : j = i
  · subst e; rw [upd_same, if_pos rfl]
  · rw [upd_other _ _ e, if_neg e]
theorem setOn (h : Tw w M T gV gL gO B N aS cS aC cC s) (i : Nat) (x : Bool) : Tw (w.setCell ⟨gO, i, none⟩ (.bool x)) M T gV gL gO B N aS cS aC cC { s with onS := upd s.onS i x } := by
  have t : Turn (fun c => c = gO) w (w.setCell ⟨gO, i, none⟩ (.bool x)) := (Turn.refl (fun c => c = gO) _).setCell (p := ⟨gO, i, none⟩) (.inr rfl) _
  obtain ⟨k1, k2, k3, _, k5, k6, k7⟩ := h.keep t
  refine ⟨k1 (h.tO.ne h.tT (by decide)), k2 (h.tO.ne h.tV (by decide)), k3 (h.tO.ne h.tL (by decide)), row_put h.on i _ _ (fun j hj => ?_), k5 h.ob, k6 (fun g e => (h.st.ty g e).ne h.tO (by decide)), k7 (fun g e => (h.ca.ty g e).ne h.tO (by decide)), h.vl, h.ob, h.sv, h.mT, h.mV, h.mL, h.mO, h.mB, h.mS, h.mC⟩
  show Value.bool (upd s.onS i x j) = _
  by_cases e : j = i
  · subst e; rw [upd_same, if_pos rfl]
  · rw [upd_other _ _ e, if_neg e]
theorem setFlag (h : Tw w M T gV gL gO B N aS cS aC cC s) : Tw (w.setCell ⟨B, 0, none⟩ (.bool false)) M T gV gL gO B N aS cS aC cC { s with flag := false } := by
  have t : Turn (fun c => c = B) w (w.setCell ⟨B, 0, none⟩ (.bool false)) := (Turn.refl (fun c => c = B) _).setCell (p := ⟨B, 0, none⟩) (.inr rfl) _
  obtain ⟨k1, k2, k3, k4, _, k6, k7⟩ := h.keep t
  refine ⟨k1 (h.tB.ne h.tT (by decide)), k2 (h.tB.ne h.tV (by decide)), k3 (h.tB.ne h.tL (by decide)), k4 (Ne.symm h.ob), row_put h.b 0 _ _ (fun j hj => ?_), k6 (fun g e => (h.st.ty g e).ne h.tB (by decide)), k7 (fun g e => (h.ca.ty g e).ne h.tB (by decide)), h.vl, h.ob, h.sv, h.mT, h.mV, h.mL, h.mO, h.mB, h.mS, h.mC⟩
  obtain rfl : j = 0 := by omega
  rw [if_pos rfl]
theorem pushS (h : Tw w M T gV gL gO B N aS cS aC cC s) (t : Turn (fun c => aS = some ⟨c, 0, none⟩) w w1) (v : Nat) {g' c' : Nat} {f' : Nat → Value} (s1 : OwK w1 3 1 (some ⟨g', 0, none⟩) (s.stk.length + 1) c' f') (hf : ∀ i, i < s.stk.length + 1 → f' i = nats (s.stk ++ [v]) i) (hg : aS = some ⟨g', 0, none⟩ ∨ w.heap.size ≤ g') (hM : M g') :
    Tw (w1.setCell ⟨T, 3, none⟩ (.slice (some ⟨g', 0, none⟩) (s.stk.length + 1) c')) M T gV gL gO B N (some ⟨g', 0, none⟩) c' aC cC { s with stk := s.stk ++ [v] } := by
  have hl : (s.stk ++ [v]).length = s.stk.length + 1 := by simp
  have o1 := t.row h.o (fun e => (h.st.ty T e).ne h.tT (by decide) rfl)
  have t2 : Turn (fun c => c = T) w1 (w1.setCell ⟨T, 3, none⟩ (.slice (some ⟨g', 0, none⟩) (s.stk.length + 1) c')) := (Turn.refl (fun c => c = T) _).setCell (p := ⟨T, 3, none⟩) (.inr rfl) _
  have v1 := t.row h.v (fun e => (h.sv gV e).1 rfl)
  have l1 := t.row h.l (fun e => (h.sv gL e).2 rfl)
  have n1 := t.row h.on (fun e => (h.st.ty gO e).ne h.tO (by decide) rfl)
  have b1 := t.row h.b (fun e => (h.st.ty B e).ne h.tB (by decide) rfl)
  have c1 := h.ca.turn t (fun g e y => (h.ca.ty g e).ne (h.st.ty g y) (by decide) rfl)
  have oT := rowTy o1
  refine ⟨by show (w1.setCell _ _).rowIs T 57 6 (taF _ _ _ (.slice _ (s.stk ++ [v]).length _) _ _); rw [hl]; exact ta3 o1 _, t2.row v1 (fun e => (rowTy v1).ne oT (by decide) e), t2.row l1 (fun e => (rowTy l1).ne oT (by decide) e), t2.row n1 (fun e => (rowTy n1).ne oT (by decide) e), t2.row b1 (fun e => (rowTy b1).ne oT (by decide) e), ?_, c1.turn t2 (fun g e y => (c1.ty g e).ne oT (by decide) y), h.vl, h.ob, ?_, h.mT, h.mV, h.mL, h.mO, h.mB, ?_, h.mC⟩
  · show OwK _ 3 1 _ (s.stk ++ [v]).length _ _
    rw [hl]
    exact (s1.congr (fun i hi => hf i (by omega))).turn t2 (fun g e y => (s1.ty g e).ne oT (by decide) y)
  · intro g e
    cases e
    rcases hg with e | e
    · exact h.sv g' e
    · have h1 := h.v.lt
      have h2 := h.l.lt
      omega
  · intro g e
    cases e
    exact hM
theorem pushC (h : Tw w M T gV gL gO B N aS cS aC cC s) (t : Turn (fun c => aC = some ⟨c, 0, none⟩) w w1) (c : Nat × Nat) {g' c' : Nat} {f' : Nat → Value} (s1 : OwK w1 63 2 (some ⟨g', 0, none⟩) (s.calls.length + 1) c' f') (hf : ∀ i, i < (s.calls.length + 1) * 2 → f' i = frs (s.calls ++ [c]) i) (hM : M g') :
    Tw (w1.setCell ⟨T, 4, none⟩ (.slice (some ⟨g', 0, none⟩) (s.calls.length + 1) c')) M T gV gL gO B N aS cS (some ⟨g', 0, none⟩) c' { s with calls := s.calls ++ [c] } := by
  have hl : (s.calls ++ [c]).length = s.calls.length + 1 := by simp
  have o1 := t.row h.o (fun e => (h.ca.ty T e).ne h.tT (by decide) rfl)
  have t2 : Turn (fun c => c = T) w1 (w1.setCell ⟨T, 4, none⟩ (.slice (some ⟨g', 0, none⟩) (s.calls.length + 1) c')) := (Turn.refl (fun c => c = T) _).setCell (p := ⟨T, 4, none⟩) (.inr rfl) _
  have v1 := t.row h.v (fun e => (h.ca.ty gV e).ne h.tV (by decide) rfl)
  have l1 := t.row h.l (fun e => (h.ca.ty gL e).ne h.tL (by decide) rfl)
  have n1 := t.row h.on (fun e => (h.ca.ty gO e).ne h.tO (by decide) rfl)
  have b1 := t.row h.b (fun e => (h.ca.ty B e).ne h.tB (by decide) rfl)
  have c1 := h.st.turn t (fun g e y => (h.st.ty g e).ne (h.ca.ty g y) (by decide) rfl)
  have oT := rowTy o1
  refine ⟨by show (w1.setCell _ _).rowIs T 57 6 (taF _ _ _ _ (.slice _ (s.calls ++ [c]).length _) _); rw [hl]; exact ta4 o1 _, t2.row v1 (fun e => (rowTy v1).ne oT (by decide) e), t2.row l1 (fun e => (rowTy l1).ne oT (by decide) e), t2.row n1 (fun e => (rowTy n1).ne oT (by decide) e), t2.row b1 (fun e => (rowTy b1).ne oT (by decide) e), c1.turn t2 (fun g e y => (c1.ty g e).ne oT (by decide) y), ?_, h.vl, h.ob, h.sv, h.mT, h.mV, h.mL, h.mO, h.mB, h.mS, ?_⟩
  · show OwK _ 63 2 _ (s.calls ++ [c]).length _ _
    rw [hl]
    exact (s1.congr (fun i hi => hf i hi)).turn t2 (fun g e y => (s1.ty g e).ne oT (by decide) y)
  · intro g e
    cases e
    exact hM
/-- 't.calls = t.calls[:len-1]'. -/
theorem dropC (h : Tw w M T gV gL gO B N aS cS aC cC s) {cs : List (Nat × Nat)} {c : Nat × Nat} (hc : s.calls = cs ++ [c]) : Tw (w.setCell ⟨T, 4, none⟩ (.slice aC cs.length cC)) M T gV gL gO B N aS cS aC cC { s with calls := cs } := by
  refine h.inT 4 _ (ta4 h.o _) rfl rfl rfl rfl h.st ?_ h.sv h.mS h.mC
  refine (h.ca.less (m := cs.length) (by rw [hc]; simp)).congr (fun i hi => ?_)
  show frs s.calls i = frs cs i
  have hi2 : i / 2 < cs.length := by omega
  unfold frs
  rw [hc, List.getD_eq_getElem?_getD, List.getD_eq_getElem?_getD, List.getElem?_append_left hi2]
/-- 't.stack = t.stack[:top]'. -/
theorem dropS (h : Tw w M T gV gL gO B N aS cS aC cC s) {pre post : List Nat} (hs : s.stk = pre ++ post) : Tw (w.setCell ⟨T, 3, none⟩ (.slice aS pre.length cS)) M T gV gL gO B N aS cS aC cC { s with stk := pre } := by
  refine h.inT 3 _ (ta3 h.o _) rfl rfl rfl rfl ?_ h.ca h.sv h.mS h.mC
  refine (h.st.less (m := pre.length) (by rw [hs]; simp)).congr (fun i hi => ?_)
  show nats s.stk i = nats pre i
  have hi2 : i < pre.length := by omega
  unfold nats
  rw [hs, List.getD_eq_getElem?_getD, List.getD_eq_getElem?_getD, List.getElem?_append_left hi2]
/-- 'f.next++' on the frame on top. -/
theorem bump {gC : Nat} (h : Tw w M T gV gL gO B N aS cS (some ⟨gC, 0, none⟩) cC s) {cs : List (Nat × Nat)} {v nx : Nat} (hc : s.calls = cs ++ [(v, nx)]) (x : Nat) : Tw (w.setCell ⟨gC, cs.length * 2 + 1, none⟩ (.int .i64 x)) M T gV gL gO B N aS cS (some ⟨gC, 0, none⟩) cC { s with calls := cs ++ [(v, x)] } := by
  have t : Turn (fun c => c = gC) w (w.setCell ⟨gC, cs.length * 2 + 1, none⟩ (.int .i64 x)) := (Turn.refl (fun c => c = gC) _).setCell (p := ⟨gC, cs.length * 2 + 1, none⟩) (.inr rfl) _
  have tC := h.ca.ty gC rfl
  have hlen : (cs ++ [((v, x) : Nat × Nat)]).length = s.calls.length := by rw [hc]; simp
  obtain ⟨k1, k2, k3, k4, k5, k6, _⟩ := h.keep t
  refine ⟨by show (w.setCell _ _).rowIs T 57 6 (taF _ _ _ _ (.slice _ (cs ++ [((v, x) : Nat × Nat)]).length _) _); rw [hlen]; exact k1 (tC.ne h.tT (by decide)), k2 (tC.ne h.tV (by decide)), k3 (tC.ne h.tL (by decide)), k4 (tC.ne h.tO (by decide)), k5 (tC.ne h.tB (by decide)), k6 (fun g e => (h.st.ty g e).ne tC (by decide)), ?_, h.vl, h.ob, h.sv, h.mT, h.mV, h.mL, h.mO, h.mB, h.mS, h.mC⟩
  show OwK _ 63 2 _ (cs ++ [((v, x) : Nat × Nat)]).length _ _
  rw [hlen]
  refine h.ca.set _ _ _ (fun j hj => ?_)
  show frs (cs ++ [(v, x)]) j = if j = cs.length * 2 + 1 then Value.int .i64 (x : Int) else frs s.calls j
  have hl2 : s.calls.length = cs.length + 1 := by rw [hc]; simp
  by_cases e : j / 2 < cs.length
  · rw [if_neg (by omega)]
    unfold frs
    rw [hc, List.getD_eq_getElem?_getD, List.getD_eq_getElem?_getD, List.getElem?_append_left e, List.getElem?_append_left e]
  · have ej : j / 2 = cs.length := by omega
    unfold frs
    rw [hc, ej]
    by_cases e2 : j % 2 = 0
    · rw [if_pos e2, if_neg (by omega), if_pos e2]; simp
    · rw [if_neg e2, if_pos (by omega)]; simp
end Tw
end Go.Proofs.Ybulkegnm
