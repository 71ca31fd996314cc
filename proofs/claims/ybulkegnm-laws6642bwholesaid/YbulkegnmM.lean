import Derived.Test.YbulkegnmW
import Derived.Test.YbulkegnmB
import Derived.ArgAppend
namespace Go.Proofs.Ybulkegnm
open Go Go.RowKit

/-- An element of succ: shared and full, or the call's own. -/
def El (w : World) (H : Nat) (a : Option Addr) (L : List Nat) (c : Nat) : Prop :=
  (c = L.length ∧ (a = none → L.length = 0) ∧ ∀ ad, a = some ad → ∃ b, ad = ⟨b, 0, none⟩ ∧ b < H ∧ b < w.heap.size ∧ ∀ j, j < L.length → w.cell? ⟨b, j, none⟩ = some (nats L j)) ∨ (∃ g, a = some ⟨g, 0, none⟩ ∧ H ≤ g ∧ OwK w 3 1 a L.length c (nats L))
theorem El.turn {w w' : World} {H : Nat} {a : Option Addr} {L : List Nat} {c : Nat} {A : Nat → Prop} (h : El w H a L c) (t : Turn A w w') (hA : ∀ k, k < w.heap.size → A k → H ≤ k ∧ a ≠ some ⟨k, 0, none⟩) : El w' H a L c := by
  rcases h with ⟨h1, h2, h3⟩ | ⟨g, e, hg, ho⟩
  · refine .inl ⟨h1, h2, fun ad e => ?_⟩
    obtain ⟨b, e1, hb, hbs, hc⟩ := h3 ad e
    refine ⟨b, e1, hb, Nat.lt_of_lt_of_le hbs t.size, fun j hj => t.cell (hc j hj) (fun hA' => ?_)⟩
    have := (hA b hbs hA').1
    omega
  · refine .inr ⟨g, e, hg, ho.turn t (fun g' e' hA' => ?_)⟩
    exact (hA g' (ho.lt g' e') hA').2 e'
theorem El.reads {w : World} {H : Nat} {a : Option Addr} {L : List Nat} {c : Nat} (h : El w H a L c) : Reads w a L.length (fun j => L.getD j 0) := by
  intro h0
  rcases h with ⟨_, h2, h3⟩ | ⟨g, e, _, ho⟩
  · cases ha : a with
    | none => have := h2 ha; omega
    | some ad =>
      obtain ⟨b, e1, _, _, hc⟩ := h3 ad ha
      exact ⟨b, 0, by rw [e1], fun j hj => by rw [Nat.zero_add]; exact hc j hj⟩
  · refine ⟨g, 0, e, fun j hj => ?_⟩
    obtain ⟨g', e', hc, _⟩ := ho.cell (i := j) (by omega)
    rw [e] at e'
    cases e'
    rw [Nat.zero_add]
    exact hc
theorem El.addr {w : World} {H : Nat} {a : Option Addr} {L : List Nat} {c : Nat} (h : El w H a L c) : ∀ ad, a = some ad → ∃ b, ad = ⟨b, 0, none⟩ ∧ b < w.heap.size := by
  intro ad e
  rcases h with ⟨_, _, h3⟩ | ⟨g, e1, _, ho⟩
  · obtain ⟨b, e1, _, hbs, _⟩ := h3 ad e
    exact ⟨b, e1, hbs⟩
  · rw [e1] at e
    cases e
    exact ⟨g, rfl, ho.lt g e1⟩
theorem nats_app (L : List Nat) (y j : Nat) (hj : j < L.length) : nats (L ++ [y]) j = nats L j := by
  unfold nats
  rw [List.getD_eq_getElem?_getD, List.getD_eq_getElem?_getD, List.getElem?_append_left hj]
theorem nats_get (L : List Nat) : ∀ i, i < L.length → (L.map (fun x : Nat => Value.int .i64 (x : Int)))[i]? = some (nats L i) := by
  intro i hi
  simp [nats, List.getElem?_eq_getElem hi, List.getD_eq_getElem?_getD]
/-- 'append' of one number onto an element of succ. -/
theorem wpList_append_el (w : World) {ops : Array Oper} {rest : List Oper} {o : Oper} {a : Act} {Q : Exit → Act → World → Prop} (hgd : o.guard = none) (s x : Operand)
    (ho : o.op = .call { callee := .builtin .append, args := #[s, x], argTypes := #[36, 36] })
    (H : Nat) (ad : Option Addr) (L : List Nat) (cap : Nat) (hs : a.eval s = .slice ad L.length cap) (hel : El w H ad L cap)
    (B c y : Nat) (hx : a.eval x = .slice (some ⟨B, 0, none⟩) 1 c) (hnew : ∀ j, j < 1 → w.cell? ⟨B, j, none⟩ = some (.int .i64 (y : Int))) (hL : L.length ≤ 1000000) (hH : H ≤ w.heap.size)
    (hK : ∀ g' cap' w', El w' H (some ⟨g', 0, none⟩) (L ++ [y]) cap' → H ≤ g' → Turn (fun k => H ≤ k ∧ ad = some ⟨k, 0, none⟩) w w' → (ad = some ⟨g', 0, none⟩ ∨ w.heap.size ≤ g') → TyIs w' g' 3 → wpList Yba.prog ops Q rest (a.put o.dst (.slice (some ⟨g', 0, none⟩) (L.length + 1) cap')) w') :
    wpList Yba.prog ops Q (o :: rest) a w := by
  obtain ⟨j0, j1, j2, j3, j4⟩ := info_parts info3
  have m1 : L.length + 1 ≤ maxLen := by unfold maxLen; omega
  rcases hel with ⟨h1, h2, h3⟩ | ⟨g, e, hg, how⟩
  · refine wpList_append_grows w hgd s x 36 ho 3 j0 (.int .i64 0) 1 8 Yba.underlying36 j1 j2 j3 j4 rfl (by omega) ad L.length cap (L.map (fun x : Nat => Value.int .i64 (x : Int))) hs (fun e => ⟨h2 e, by rw [h1, h2 e]⟩) (by simp) ?_ ⟨B, 0, none⟩ 1 c [.int .i64 (y : Int)] hx rfl ?_ ?_ (by omega) m1 (by omega) ?_
    · intro b e j u hu
      obtain ⟨b', e1, _, _, hc⟩ := h3 b e
      subst e1
      have hj : j < L.length := by simpa using (List.getElem?_eq_some_iff.1 hu).1
      rw [WideShapes.add_plain, Nat.zero_add, hc j hj, ← nats_get L j hj, hu]
    · intro j u hu
      have hj : j < 1 := by simpa using (List.getElem?_eq_some_iff.1 hu).1
      obtain rfl : j = 0 := by omega
      rw [WideShapes.add_plain]
      rw [hnew 0 hj]
      simpa using hu
    · intro u hu
      simp only [List.mem_singleton] at hu
      rw [hu]; rfl
    · intro v' w' hown hgrow
      obtain ⟨hl, hr⟩ := hown
      have hsz : w.heap.size ≤ w'.heap.size := hgrow.size
      rcases hr with ⟨_, hn⟩ | ⟨g', cap', cur, rfl, hg', hb, g1, g2, g3, g4⟩
      · simp at hn
      · refine hK g' cap' w' (.inr ⟨g', rfl, by omega, .inr ⟨g', rfl, by simpa using g1, g2, cur, hb, g3, fun j hj => ?_⟩⟩) (by omega) ?_ (.inr hg') ⟨cur, hb⟩
        · have hj' : j < (L.length + 1) * 1 := by simpa using hj
          have h5 : (cur.toList.take ((L.length + 1) * 1))[j]? = (L.map (fun x : Nat => Value.int .i64 (x : Int)) ++ [Value.int .i64 (y : Int)])[j]? := by rw [g4]
          rw [List.getElem?_take, if_pos hj'] at h5
          rw [← Array.getElem?_toList, h5, ← nats_get (L ++ [y]) j (by simpa using hj)]
          simp
        · exact (Turn.refl _ w).grown hgrow (fun k hk => by cases hk)
  · refine wpList_append_k w hgd s x 36 ho 3 j0 (.int .i64 0) 1 8 Yba.underlying36 j1 j2 j3 j4 rfl (by omega) ad L.length cap (nats L) hs how B c (fun _ => .int .i64 (y : Int)) hx hnew (fun _ _ => rfl) m1 (by omega) w.heap.size rfl ?_
    intro g' cap' w' how' t' l'
    have hg' : H ≤ g' := by
      rcases l' with e' | e'
      · rw [e] at e'; cases e'; exact hg
      · omega
    have hel' : El w' H (some ⟨g', 0, none⟩) (L ++ [y]) cap' := by
      refine .inr ⟨g', rfl, hg', ?_⟩
      have : (L ++ [y]).length = L.length + 1 := by simp
      rw [this]
      exact how'.congr (fun i hi => nats_push L y i (by omega))
    have l2 : ad = some ⟨g', 0, none⟩ ∨ w.heap.size ≤ g' := by
      rcases l' with e' | e'
      · exact .inl e'
      · exact .inr (by omega)
    refine hK g' cap' w' hel' hg' (t'.mono (fun k _ hk => ⟨?_, hk⟩)) l2 (how'.ty g' rfl)
    rw [e] at hk
    cases hk
    exact hg

/-- The graph b under way, in memory: the slice of slices at block gR. -/
structure Bm (w : World) (H gR cap : Nat) (b : BS) (A : Nat → Option Addr) (C : Nat → Nat) : Prop where
  row : OwK w 36 1 (some ⟨gR, 0, none⟩) b.len cap (fun v => .slice (A v) (b.f v).length (C v))
  hR : H ≤ gR
  el : ∀ v, v < b.len → El w H (A v) (b.f v) (C v)
  di : ∀ u v, u < b.len → v < b.len → u ≠ v → ∀ g, H ≤ g → A u = some ⟨g, 0, none⟩ → A v ≠ some ⟨g, 0, none⟩
  ty : ∀ v, v < b.len → ∀ g, A v = some ⟨g, 0, none⟩ → g ≠ gR
namespace Bm
variable {w w' : World} {H gR cap : Nat} {b : BS} {A : Nat → Option Addr} {C : Nat → Nat}
theorem turn (h : Bm w H gR cap b A C) (t : Turn (fun _ => False) w w') : Bm w' H gR cap b A C :=
  ⟨h.row.turn t (fun _ _ y => y), h.hR, fun v hv => (h.el v hv).turn t (fun _ _ y => y.elim), h.di, h.ty⟩
theorem cell (h : Bm w H gR cap b A C) {v : Nat} (hv : v < b.len) : w.cell? ⟨gR, v, none⟩ = some (.slice (A v) (b.f v).length (C v)) ∧ w.frozen? ⟨gR, v, none⟩ = false := by
  obtain ⟨g, e, h1, h2⟩ := h.row.cell (i := v) (by omega)
  cases e
  exact ⟨h1, h2⟩
theorem lt (h : Bm w H gR cap b A C) : gR < w.heap.size := h.row.lt gR rfl
/-- 'succ[v] = append(succ[v], y)'. -/
theorem put (h : Bm w H gR cap b A C) {v y g' cap' : Nat} (hv : v < b.len) (he : El w' H (some ⟨g', 0, none⟩) (b.f v ++ [y]) cap') (hg : H ≤ g') (t : Turn (fun k => H ≤ k ∧ A v = some ⟨k, 0, none⟩) w w') (hl : A v = some ⟨g', 0, none⟩ ∨ w.heap.size ≤ g') :
    Bm (w'.setCell ⟨gR, v, none⟩ (.slice (some ⟨g', 0, none⟩) ((b.f v).length + 1) cap')) H gR cap { b with f := upd b.f v (b.f v ++ [y]) } (upd A v (some ⟨g', 0, none⟩)) (upd C v cap') := by
  have hne : g' ≠ gR := by
    rcases hl with e | e
    · exact h.ty v hv g' e
    · have := h.lt; omega
  have t2 : Turn (fun k => k = gR) w' (w'.setCell ⟨gR, v, none⟩ (.slice (some ⟨g', 0, none⟩) ((b.f v).length + 1) cap')) := (Turn.refl (fun k => k = gR) _).setCell (p := ⟨gR, v, none⟩) (.inr rfl) _
  refine ⟨?_, h.hR, ?_, ?_, ?_⟩
  · refine (h.row.turn t (fun g e hk => ?_)).set v _ _ (fun j hj => ?_)
    · cases e
      exact h.ty v hv gR hk.2 rfl
    · show Value.slice (upd A v (some ⟨g', 0, none⟩) j) (upd b.f v (b.f v ++ [y]) j).length (upd C v cap' j) = _
      by_cases e : j = v
      · subst e; rw [upd_same, upd_same, upd_same, if_pos rfl]; simp
      · rw [upd_other _ _ e, upd_other _ _ e, upd_other _ _ e, if_neg e]
  · intro u hu
    show El _ H (upd A v (some ⟨g', 0, none⟩) u) (upd b.f v (b.f v ++ [y]) u) (upd C v cap' u)
    by_cases e : u = v
    · subst e; rw [upd_same, upd_same, upd_same]
      exact he.turn t2 (fun k _ hk => by subst hk; exact ⟨h.hR, fun e => by cases e; exact hne rfl⟩)
    · rw [upd_other _ _ e, upd_other _ _ e, upd_other _ _ e]
      have h1 := (h.el u hu).turn t (fun k _ hk => ⟨hk.1, fun e2 => h.di v u hv hu (fun x => e x.symm) k hk.1 hk.2 e2⟩)
      exact h1.turn t2 (fun k _ hk => by subst hk; exact ⟨h.hR, fun e2 => h.ty u hu _ e2 rfl⟩)
  · have key : ∀ u, u < b.len → u ≠ v → A u ≠ some ⟨g', 0, none⟩ := by
      intro u hu hne2 e2
      rcases hl with e | e
      · exact h.di v u hv hu (fun x => hne2 x.symm) g' hg e e2
      · obtain ⟨b', e3, hb'⟩ := (h.el u hu).addr _ e2
        cases e3
        omega
    intro u x hu hx hux g hg' e1 e2
    by_cases eu : u = v
    · subst eu
      rw [upd_same] at e1
      cases e1
      rw [upd_other _ _ (fun e => hux e.symm)] at e2
      exact key x hx (fun e => hux e.symm) e2
    · rw [upd_other _ _ eu] at e1
      by_cases ex : x = v
      · subst ex
        rw [upd_same] at e2
        cases e2
        exact key u hu eu e1
      · rw [upd_other _ _ ex] at e2
        exact h.di u x hu hx hux g hg' e1 e2
  · intro u hu g e
    by_cases eu : u = v
    · subst eu; rw [upd_same] at e; cases e; exact hne
    · rw [upd_other _ _ eu] at e; exact h.ty u hu g e
/-- 'succ = append(succ, nil)'. -/
theorem push (h : Bm w H gR cap b A C) {g' cap' : Nat} (ho : OwK w' 36 1 (some ⟨g', 0, none⟩) (b.len + 1) cap' (fun j => if j < b.len * 1 then .slice (A j) (b.f j).length (C j) else .slice none 0 0)) (t : Turn (fun k => (some ⟨gR, 0, none⟩ : Option Addr) = some ⟨k, 0, none⟩) w w') (hl : (some ⟨gR, 0, none⟩ : Option Addr) = some ⟨g', 0, none⟩ ∨ w.heap.size ≤ g') (hH : H ≤ w.heap.size) :
    Bm w' H g' cap' { b with len := b.len + 1, f := upd b.f b.len [] } (upd A b.len none) (upd C b.len 0) := by
  have hg : H ≤ g' := by
    rcases hl with e | e
    · cases e; exact h.hR
    · omega
  refine ⟨ho.congr (fun j hj => ?_), hg, ?_, ?_, ?_⟩
  · show _ = Value.slice (upd A b.len none j) (upd b.f b.len [] j).length (upd C b.len 0 j)
    by_cases e : j < b.len
    · rw [if_pos (by omega), upd_other _ _ (by omega), upd_other _ _ (by omega), upd_other _ _ (by omega)]
    · obtain rfl : j = b.len := by omega
      rw [if_neg (by omega), upd_same, upd_same, upd_same]
      rfl
  · intro v hv
    show El w' H (upd A b.len none v) (upd b.f b.len [] v) (upd C b.len 0 v)
    by_cases e : v = b.len
    · subst e
      rw [upd_same, upd_same, upd_same]
      exact .inl ⟨rfl, fun _ => rfl, fun ad e => by cases e⟩
    · rw [upd_other _ _ e, upd_other _ _ e, upd_other _ _ e]
      have hv' : v < b.len + 1 := hv
      refine (h.el v (by omega)).turn t (fun k _ hk => ?_)
      cases hk
      exact ⟨h.hR, fun e2 => h.ty v (by omega) gR e2 rfl⟩
  · intro u x hu hx hux g hg' e1 e2
    have hu' : u < b.len + 1 := hu
    have hx' : x < b.len + 1 := hx
    by_cases eu : u = b.len
    · subst eu; rw [upd_same] at e1; cases e1
    · rw [upd_other _ _ eu] at e1
      by_cases ex : x = b.len
      · subst ex; rw [upd_same] at e2; cases e2
      · rw [upd_other _ _ ex] at e2
        exact h.di u x (by omega) (by omega) hux g hg' e1 e2
  · intro u hu g e
    have hu' : u < b.len + 1 := hu
    by_cases eu : u = b.len
    · subst eu; rw [upd_same] at e; cases e
    · rw [upd_other _ _ eu] at e
      intro eg
      subst eg
      rcases hl with e2 | e2
      · cases e2
        exact h.ty u (by omega) _ e rfl
      · obtain ⟨b', e3, hb'⟩ := (h.el u (by omega)).addr _ e
        cases e3
        omega
end Bm
end Go.Proofs.Ybulkegnm
