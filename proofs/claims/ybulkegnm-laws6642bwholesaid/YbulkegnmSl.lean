import Derived.Test.YbulkegnmAid
import Derived.Maps.AppendAt
namespace Go.Proofs.Ybulkegnm
open Go Go.RowKit

/-- Block g is a row of 'cap' cells of type E, none frozen, whose first n cells hold 'f': what a slice of the call's own over one-cell elements leads to. -/
def SlI (w : World) (E : TypeId) (g n cap : Nat) (f : Nat → Value) : Prop :=
  n ≤ cap ∧ cap ≤ maxLen ∧ ∃ cur : Array Value, w.heap[g]? = some (.cells cur E (0, 0)) ∧ cur.size = cap ∧ ∀ i, i < n → cur[i]? = some (f i)
namespace SlI
variable {w w' : World} {E : TypeId} {g n cap : Nat} {f f' : Nat → Value}
theorem cell (h : SlI w E g n cap f) {i : Nat} (hi : i < n) : w.cell? ⟨g, i, none⟩ = some (f i) := by
  obtain ⟨_, _, cur, hb, _, hf⟩ := h
  simp [World.cell?, hb, hf i hi]
theorem frozen (h : SlI w E g n cap f) (i : Nat) : w.frozen? ⟨g, i, none⟩ = false := by
  obtain ⟨_, _, cur, hb, _, _⟩ := h
  simp [World.frozen?, hb]
theorem lt (h : SlI w E g n cap f) : g < w.heap.size := by
  obtain ⟨_, _, cur, hb, _, _⟩ := h
  exact (Array.getElem?_eq_some_iff.1 hb).1
theorem ofBlock (h : SlI w E g n cap f) (e : w'.heap[g]? = w.heap[g]?) : SlI w' E g n cap f := by
  obtain ⟨h1, h2, cur, hb, h3, h4⟩ := h
  exact ⟨h1, h2, cur, e.trans hb, h3, h4⟩
theorem turn {A : Nat → Prop} (h : SlI w E g n cap f) (t : Turn A w w') (ha : ¬ A g) : SlI w' E g n cap f := h.ofBlock (t.block g h.lt ha)
theorem congr (h : SlI w E g n cap f) (e : ∀ i, i < n → f i = f' i) : SlI w E g n cap f' := by
  obtain ⟨h1, h2, cur, hb, h3, h4⟩ := h
  exact ⟨h1, h2, cur, hb, h3, fun i hi => by rw [h4 i hi, e i hi]⟩
theorem le (h : SlI w E g n cap f) : n ≤ cap ∧ cap ≤ maxLen := ⟨h.1, h.2.1⟩
/-- A store into the row. -/
theorem set (h : SlI w E g n cap f) (i : Nat) (v : Value) (f' : Nat → Value) (hf' : ∀ j, j < n → f' j = if j = i then v else f j) : SlI (w.setCell ⟨g, i, none⟩ v) E g n cap f' := by
  obtain ⟨h1, h2, cur, hb, h3, h4⟩ := h
  refine ⟨h1, h2, cur.setIfInBounds i v, ?_, by simpa using h3, fun j hj => ?_⟩
  · simp [World.setCell, Array.getElem?_modify, hb]
  · rw [Array.getElem?_setIfInBounds, hf' j hj]
    by_cases e : j = i
    · subst e
      rw [if_pos rfl, if_pos rfl, if_pos (by omega)]
    · rw [if_neg (fun h => e h.symm), if_neg e]
      exact h4 j hj
theorem owns (h : SlI w E g n cap f) : w.ownsRow 0 E 1 (.slice (some ⟨g, 0, none⟩) n cap) n ((List.range n).map f) := by
  obtain ⟨h1, h2, cur, hb, h3, h4⟩ := h
  refine ⟨by simp, .inr ⟨g, cap, cur, rfl, Nat.zero_le _, hb, h1, h2, by simpa using h3, ?_⟩⟩
  apply List.ext_getElem?
  intro i
  by_cases hi : i < n
  · have := h4 i hi
    simp [hi]
    simpa using this
  · simp [List.getElem?_take, hi]
theorem ofOwns {v : Value} {xs : List Value} (h : w.ownsRow 0 E 1 v n xs) (hv : v ≠ .slice none 0 0) (hf : ∀ i, i < n → xs[i]? = some (f i)) : ∃ g cap, v = .slice (some ⟨g, 0, none⟩) n cap ∧ SlI w E g n cap f := by
  obtain ⟨hl, hr⟩ := h
  rcases hr with ⟨hn, _⟩ | ⟨g, cap, cur, rfl, _, hb, h1, h2, h3, h4⟩
  · exact absurd hn hv
  · refine ⟨g, cap, rfl, h1, h2, cur, hb, by simpa using h3, fun i hi => ?_⟩
    have := hf i hi
    rw [← h4] at this
    simpa [List.getElem?_take, hi] using this
theorem ofRow (h : w.rowIs g E cap f) (hc : cap ≤ maxLen) (hn : n ≤ cap) : SlI w E g n cap f := by
  obtain ⟨c, hb, hs, hf⟩ := h
  exact ⟨hn, hc, c, hb, hs, fun i hi => hf i (by omega)⟩
end SlI

/-- 'x = append(x, ys...)' onto a slice of the call's own, one-cell elements, at a plain region's operation. -/
theorem wpList_append_sl {P : Program} (w : World) {ops : Array Oper} {rest : List Oper} {o : Oper} {a : Act} {Q : Exit → Act → World → Prop} (hgd : o.guard = none) (s x : Operand) (t : TypeId)
    (ho : o.op = .call { callee := .builtin .append, args := #[s, x], argTypes := #[t, t] })
    (E : TypeId) (i : TypeInfo) (z : Value) (bytes : Nat) (ht : P.underlying t = some (.slice E)) (hi : P.info? E = some i) (hz : i.zero = some z) (hsize : i.size = 1) (hby : i.bytes = bytes) (hzs : z.cells.size = 1)
    (g n cap : Nat) (f : Nat → Value) (hs : a.eval s = .slice (some ⟨g, 0, none⟩) n cap) (hsl : SlI w E g n cap f)
    (B off m c : Nat) (h : Nat → Value) (hx : a.eval x = .slice (some ⟨B, off, none⟩) m c) (hnews : ∀ j, j < m → w.cell? ⟨B, off + j, none⟩ = some (h j)) (h1 : ∀ j, j < m → (h j).oneCell' = true)
    (h63 : n + m ≤ maxLen) (hbytes : (n + m) * bytes ≤ 140737488355328) (H : Nat) (hH : w.heap.size = H)
    (hK : ∀ g' cap' w', SlI w' E g' (n + m) cap' (fun j => if j < n then f j else h (j - n)) → Turn (fun k => k = g) w w' → (g' = g ∨ g' = H) → wpList P ops Q rest (a.put o.dst (.slice (some ⟨g', 0, none⟩) (n + m) cap')) w') :
    wpList P ops Q (o :: rest) a w := by
  refine wpList_append_own_at w hgd s x t ho 0 E i z 1 bytes ht hi hz hsize hby hzs (by omega) _ n _ hs hsl.owns ⟨B, off, none⟩ m c ((List.range m).map h) hx (by simp) ?_ ?_ h63 hbytes (Nat.zero_le _) ?_
  · intro j u hu
    obtain ⟨hj, rfl⟩ := List.getElem?_eq_some_iff.1 hu
    simp at hj
    rw [WideShapes.add_plain]
    simpa using hnews j hj
  · intro u hu
    simp only [List.mem_map, List.mem_range] at hu
    obtain ⟨j, hj, rfl⟩ := hu
    exact h1 j hj
  · intro v' w' hown hgrow hnil hloc
    obtain ⟨g', cap', rfl, hsl'⟩ := SlI.ofOwns (f := fun j => if j < n then f j else h (j - n)) hown (fun e => by have := (hnil.1 e).1; cases this) (by
      intro j hj
      by_cases hjn : j < n
      · rw [if_pos hjn, List.getElem?_append_left (by simpa using hjn)]
        simp [hjn]
      · rw [if_neg hjn, List.getElem?_append_right (by simp; omega), List.length_map, List.length_range, List.getElem?_map, List.getElem?_range (by omega)]
        rfl)
    refine hK g' cap' w' hsl' ?_ ?_
    · refine (Turn.refl (fun k => k = g) w).grown hgrow (fun k hk => .inr ?_)
      simpa [Value.ownBlock] using hk.symm
    · rcases hloc with e | e
      · left; simpa [Value.ownBlock] using e
      · right; rw [← hH]; simpa [Value.ownBlock] using e
end Go.Proofs.Ybulkegnm
