import Derived.Test.YbulkegooDoorRows
import Derived.Lib.AppendStr
import Derived.Lib.AppendIntMem
import Derived.Laws.AppendOwn
import Derived.Laws.OwnMore
import Derived.WalkKit
import Derived.BigCall
namespace Go.Proofs.YbulkegooDoor
open Go Go.RowKit Go.Lib

/-- A slice of the call's own over one-cell elements, at the head of a block from B on: whatever type the block bears (a variable's array, or a row that append made). -/
def OwnB (w : World) (B : Nat) (v : Value) (xs : List Value) : Prop :=
  ∃ g cap cur T, v = .slice (some ⟨g, 0, none⟩) xs.length cap ∧ B ≤ g ∧ w.heap[g]? = some (.cells cur T (0, 0)) ∧ xs.length ≤ cap ∧ cap ≤ maxLen ∧ cur.size = cap ∧ cur.toList.take xs.length = xs

theorem OwnB.cells {w : World} {B : Nat} {v : Value} {xs : List Value} (h : OwnB w B v xs) : ∃ g cap, v = .slice (some ⟨g, 0, none⟩) xs.length cap ∧ B ≤ g ∧ ∀ j u, xs[j]? = some u → w.cell? ⟨g, j, none⟩ = some u := by
  obtain ⟨g, cap, cur, T, rfl, hB, hg, h1, h2, h3, h4⟩ := h
  refine ⟨g, cap, rfl, hB, fun j u hu => ?_⟩
  rw [← h4, List.getElem?_take] at hu
  split at hu
  · simpa [World.cell?, hg] using hu
  · cases hu
theorem OwnB.keep {w w' : World} {B : Nat} {v : Value} {xs : List Value} (h : OwnB w B v xs) (hk : ∀ k, k < w.heap.size → w'.heap[k]? = w.heap[k]?) : OwnB w' B v xs := by
  obtain ⟨g, cap, cur, T, hv, hB, hg, r⟩ := h
  exact ⟨g, cap, cur, T, hv, hB, (hk g (Array.getElem?_eq_some_iff.1 hg).1).trans hg, r⟩
theorem OwnB.alloc {w : World} {B : Nat} {v : Value} {xs : List Value} (h : OwnB w B v xs) (o : Obj) : OwnB (w.alloc o) B v xs := h.keep fun _ hk => heap_alloc_old w o hk

theorem OwnB.lt {w : World} {B : Nat} {v : Value} {xs : List Value} (h : OwnB w B v xs) {k : Nat} (hk : v.ownBlock = some k) : B ≤ k ∧ k < w.heap.size := by
  obtain ⟨g, cap, cur, T, rfl, hB, hg, _⟩ := h
  cases hk
  exact ⟨hB, (Array.getElem?_eq_some_iff.1 hg).1⟩
theorem OwnB.below {w w' : World} {B : Nat} {v : Value} {xs : List Value} (h : OwnB w B v xs) (hg : w.grownBy w' v.ownBlock) (hB : B ≤ w.heap.size) : Below B w w' :=
  (Below.refl B w).grown hg hB (fun _ hk => (h.lt hk).1)

section
variable {P : Program} (w : World)
theorem grown_B (B old : Nat) (row : Option Nat) (e : TypeId) (xs news : List Value) (hb : xs.length + news.length ≤ 140737488355328) (hB : B ≤ w.heap.size) :
    OwnB (w.drew.alloc (.cells (xs.toArray ++ news.toArray ++ Builtin.zeroCells (Value.int .u8 0).cells (grownCap w (xs.length + news.length) old e - (xs.length + news.length))) e)) B
        (.slice (some ⟨w.heap.size, 0, none⟩) (xs.length + news.length) (grownCap w (xs.length + news.length) old e)) (xs ++ news) ∧
      w.grownBy (w.drew.alloc (.cells (xs.toArray ++ news.toArray ++ Builtin.zeroCells (Value.int .u8 0).cells (grownCap w (xs.length + news.length) old e - (xs.length + news.length))) e)) row := by
  have hge := grownCap_ge w (xs.length + news.length) old e
  have hcm : grownCap w (xs.length + news.length) old e ≤ maxLen := grownCap_le_maxLen w (xs.length + news.length) old e (by unfold maxLen; omega)
  refine ⟨⟨w.heap.size, _, _, e, by rw [List.length_append], hB, heap_alloc_new w.drew _, by rw [List.length_append]; exact hge, hcm, ?_, ?_⟩, ?_⟩
  · have hz1 : (Value.int IntKind.u8 0).cells.size = 1 := rfl
    simp only [Array.size_append, List.size_toArray, size_zeroCells, hz1]
    omega
  · simp only [Array.toList_append, List.append_assoc]
    rw [← List.append_assoc]
    exact List.take_left
  · exact ⟨rfl, rfl, rfl, by simp, fun k hk _ => heap_alloc_old w.drew _ hk⟩
theorem room_B {B g cap : Nat} {cur : Array Value} {T : TypeId} (xs news : List Value) (hBg : B ≤ g) (hg : w.heap[g]? = some (.cells cur T (0, 0))) (hcm : cap ≤ maxLen) (hcs : cur.size = cap) (htake : cur.toList.take xs.length = xs) (hroom : xs.length + news.length ≤ cap) :
    OwnB (w.setRow g (cur.toList.take xs.length ++ news ++ cur.toList.drop (xs.length + news.length)).toArray) B (.slice (some ⟨g, 0, none⟩) (xs.length + news.length) cap) (xs ++ news) ∧
      w.grownBy (w.setRow g (cur.toList.take xs.length ++ news ++ cur.toList.drop (xs.length + news.length)).toArray) (some g) := by
  refine ⟨⟨g, cap, _, T, by rw [List.length_append], hBg, setRow_heap w g cur _ T _ hg, by rw [List.length_append]; exact hroom, hcm, ?_, ?_⟩, ?_⟩
  · simp only [List.size_toArray, List.length_append, List.length_take, List.length_drop, Array.length_toList]
    omega
  · rw [htake]
    exact List.take_left
  · exact ⟨rfl, rfl, rfl, by simp, fun k _ hk => setRow_other w g k _ (fun e => hk (by simp [e]))⟩

theorem run_append_B (B : Nat) (t ty e : TypeId) (i : TypeInfo) (ht : P.underlying t = some (.slice e)) (hi : P.info? e = some i) (hz : i.zero = some (.int .u8 0)) (hsize : i.size = 1) (hby : i.bytes = 1)
    (v : Value) (xs : List Value) (h : OwnB w B v xs) (a : Addr) (c : Nat) (news : List Value) (hnews : ∀ j u, news[j]? = some u → w.cell? (a.add j) = some u) (h1 : ∀ u ∈ news, u.oneCell' = true)
    (hb : xs.length + news.length ≤ 140737488355328) (hB : B ≤ w.heap.size) :
    ∃ v' w', (Builtin.append_ #[t, t] ty #[v, .slice (some a) news.length c]).run P w = .ok v' w' ∧ OwnB w' B v' (xs ++ news) ∧ w.grownBy w' v.ownBlock := by
  obtain ⟨g, cap, cur, T, rfl, hBg, hg, hnc, hcm, hcs, htake⟩ := h
  by_cases hroom : xs.length + news.length ≤ cap
  · have hf := run_firstCells_some (P := P) w i.size news.length a news.length c news (by rw [hsize, Nat.mul_one]) hnews
    have hst := run_storeCells_at P g (xs.length * i.size) T news 0 cur w hg (by rw [hsize]; omega) h1
    simp only [Nat.add_zero] at hst
    have hr : (Builtin.append_ #[t, t] ty #[.slice (some ⟨g, 0, none⟩) xs.length cap, .slice (some a) news.length c]).run P w = .ok (.slice (some ⟨g, 0, none⟩) (xs.length + news.length) cap) (w.setRow g (cur.toList.take xs.length ++ news ++ cur.toList.drop (xs.length + news.length)).toArray) := by
      rw [hsize] at hf hst
      simp only [Nat.mul_one] at hst
      simp [Builtin.append_, run_underlying ht, sizeOf, typeInfo, hi, hsize, Builtin.lenOf, hroom, hf, Addr.add_lit, hst]
    obtain ⟨h2, h3⟩ := room_B w xs news hBg hg hcm hcs htake hroom
    exact ⟨_, _, hr, h2, h3⟩
  · have holds : ∀ j u, xs[j]? = some u → w.cell? ((⟨g, 0, none⟩ : Addr).add j) = some u := fun j u hu => by
      rw [← htake, List.getElem?_take] at hu
      split at hu
      · rw [Lib.add_plain]; simpa [World.cell?, hg] using hu
      · cases hu
    have hr := run_append_grow (P := P) w t ty e i (.int .u8 0) ht hi hz ⟨g, 0, none⟩ xs.length cap xs (by rw [hsize, Nat.mul_one]) holds a news.length c news (by rw [hsize, Nat.mul_one]) hnews (by omega) (by omega) (by rw [hby]; exact growslice_fits (by omega) (by omega))
    obtain ⟨h2, h3⟩ := grown_B w B cap (some g) e xs news hb hB
    exact ⟨_, _, hr, h2, h3⟩

theorem run_append_B_string (B : Nat) (t u ty e : TypeId) (i : TypeInfo) (ht : P.underlying t = some (.slice e)) (hu : P.underlying u = some .string) (hi : P.info? e = some i) (hz : i.zero = some (.int .u8 0)) (hsize : i.size = 1) (hby : i.bytes = 1)
    (v : Value) (xs : List Value) (h : OwnB w B v xs) (s : ByteArray) (hb : xs.length + s.size ≤ 140737488355328) (hB : B ≤ w.heap.size) :
    ∃ v' w', (Builtin.append_ #[t, u] ty #[v, .string s]).run P w = .ok v' w' ∧ OwnB w' B v' (xs ++ strCells s) ∧ w.grownBy w' v.ownBlock := by
  obtain ⟨g, cap, cur, T, rfl, hBg, hg, hnc, hcm, hcs, htake⟩ := h
  have hsl := strCells_length s
  by_cases hroom : xs.length + s.size ≤ cap
  · have hf := run_firstCells_string (P := P) w 1 s
    have hst := run_storeCells_at P g xs.length T (strCells s) 0 cur w hg (by simp only [hsl]; omega) (strCells_oneCell s)
    simp only [Nat.add_zero] at hst
    have hr : (Builtin.append_ #[t, u] ty #[.slice (some ⟨g, 0, none⟩) xs.length cap, .string s]).run P w = .ok (.slice (some ⟨g, 0, none⟩) (xs.length + (strCells s).length) cap) (w.setRow g (cur.toList.take xs.length ++ strCells s ++ cur.toList.drop (xs.length + (strCells s).length)).toArray) := by
      rw [hsl] at hst ⊢
      simp [Builtin.append_, run_underlying ht, run_underlying hu, sizeOf, typeInfo, hi, hsize, Builtin.lenOf, hroom, hf, Addr.add_lit, hst]
    obtain ⟨h2, h3⟩ := room_B w xs (strCells s) hBg hg hcm hcs htake (by rw [hsl]; exact hroom)
    exact ⟨_, _, hr, h2, h3⟩
  · have holds : ∀ j u, xs[j]? = some u → w.cell? ((⟨g, 0, none⟩ : Addr).add j) = some u := fun j u hu => by
      rw [← htake, List.getElem?_take] at hu
      split at hu
      · rw [Lib.add_plain]; simpa [World.cell?, hg] using hu
      · cases hu
    have hr := run_append_grow_string (P := P) w t u ty e i (.int .u8 0) ht hu hi hz ⟨g, 0, none⟩ xs.length cap xs (by rw [hsize, Nat.mul_one]) holds s (by omega) (by omega) (by rw [hby]; exact growslice_fits (by omega) (by omega))
    rw [← hsl] at hr
    obtain ⟨h2, h3⟩ := grown_B w B cap (some g) e xs (strCells s) (by rw [hsl]; exact hb) hB
    exact ⟨_, _, hr, h2, h3⟩

theorem wpList_append_B {ops : Array Oper} {rest : List Oper} {o : Oper} {a : Act} {Q : Exit → Act → World → Prop} (hgd : o.guard = none) (s x : Operand) (t : TypeId)
    (ho : o.op = .call { callee := .builtin .append, args := #[s, x], argTypes := #[t, t] })
    (B : Nat) (e : TypeId) (i : TypeInfo) (ht : P.underlying t = some (.slice e)) (hi : P.info? e = some i) (hz : i.zero = some (.int .u8 0)) (hsize : i.size = 1) (hby : i.bytes = 1)
    (v : Value) (xs : List Value) (hs : a.eval s = v) (h : OwnB w B v xs) (ad : Addr) (m c : Nat) (news : List Value) (hx : a.eval x = .slice (some ad) m c) (hm : m = news.length) (hnews : ∀ j u, news[j]? = some u → w.cell? (ad.add j) = some u) (h1 : ∀ u ∈ news, u.oneCell' = true)
    (hb : xs.length + news.length ≤ 140737488355328) (hB : B ≤ w.heap.size)
    (hK : ∀ v' w', OwnB w' B v' (xs ++ news) → w.grownBy w' v.ownBlock → wpList P ops Q rest (a.put o.dst v') w') : wpList P ops Q (o :: rest) a w := by
  subst hm
  refine wpList_plain hgd fun K hK' => ?_
  obtain ⟨v', w', hr, h2, h3⟩ := run_append_B (P := P) w B t o.type e i ht hi hz hsize hby v xs h ad c news hnews h1 hb hB
  unfold Oper.wp execOp
  simp only [ho, resolve, invoke, builtin, Sem.run_bind, Sem.run_pure, Result.andThen_ok, List.map_toArray, List.map_cons, List.map_nil, hs, hx, hr]
  exact hK' _ _ (hK v' w' h2 h3)
theorem wpList_append_B_string {ops : Array Oper} {rest : List Oper} {o : Oper} {a : Act} {Q : Exit → Act → World → Prop} (hgd : o.guard = none) (sl x : Operand) (t u : TypeId)
    (ho : o.op = .call { callee := .builtin .append, args := #[sl, x], argTypes := #[t, u] })
    (B : Nat) (e : TypeId) (i : TypeInfo) (ht : P.underlying t = some (.slice e)) (hu : P.underlying u = some .string) (hi : P.info? e = some i) (hz : i.zero = some (.int .u8 0)) (hsize : i.size = 1) (hby : i.bytes = 1)
    (v : Value) (xs : List Value) (hs : a.eval sl = v) (h : OwnB w B v xs) (s : ByteArray) (hx : a.eval x = .string s) (hb : xs.length + s.size ≤ 140737488355328) (hB : B ≤ w.heap.size)
    (hK : ∀ v' w', OwnB w' B v' (xs ++ strCells s) → w.grownBy w' v.ownBlock → wpList P ops Q rest (a.put o.dst v') w') : wpList P ops Q (o :: rest) a w := by
  refine wpList_plain hgd fun K hK' => ?_
  obtain ⟨v', w', hr, h2, h3⟩ := run_append_B_string (P := P) w B t u o.type e i ht hu hi hz hsize hby v xs h s hb hB
  unfold Oper.wp execOp
  simp only [ho, resolve, invoke, builtin, Sem.run_bind, Sem.run_pure, Result.andThen_ok, List.map_toArray, List.map_cons, List.map_nil, hs, hx, hr]
  exact hK' _ _ (hK v' w' h2 h3)
end
end Go.Proofs.YbulkegooDoor
