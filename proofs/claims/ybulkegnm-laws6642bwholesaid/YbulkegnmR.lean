import Derived.Test.YbulkegnmO
import Derived.Test.YbulkegnmP
namespace Go.Proofs.Ybulkegnm
open Go Go.RowKit

/-- The operations, the first q of them laid. -/
def opZ (q : Nat) (tx : Nat → Nat) : Nat → Value := fun j => if j / 3 < q then (if j % 3 = 0 then .int .u8 119 else if j % 3 = 1 then .int .i64 (tx (j / 3) : Nat) else .string ⟨#[120]⟩) else (if j % 3 = 0 then .int .u8 0 else if j % 3 = 1 then .int .i64 0 else .string ⟨#[]⟩)
theorem op_step {w : World} {g n q : Nat} {tx : Nat → Nat} (h : w.rowIs g 30 n (opZ q tx)) :
    (((w.setCell ⟨g, q * 3, none⟩ (.int .u8 119)).setCell ⟨g, q * 3 + 1, none⟩ (.int .i64 (tx q : Nat))).setCell ⟨g, q * 3 + 2, none⟩ (.string ⟨#[120]⟩)).rowIs g 30 n (opZ (q + 1) tx) := by
  have h1 := row_put h (q * 3) (.int .u8 119) (fun j => if j = q * 3 then .int .u8 119 else opZ q tx j) (fun j _ => rfl)
  have h2 := row_put h1 (q * 3 + 1) (.int .i64 (tx q : Nat)) (fun j => if j = q * 3 + 1 then .int .i64 (tx q : Nat) else if j = q * 3 then .int .u8 119 else opZ q tx j) (fun j _ => rfl)
  refine row_put h2 (q * 3 + 2) _ _ (fun j _ => ?_)
  unfold opZ
  by_cases e2 : j = q * 3 + 2
  · subst e2
    rw [if_pos rfl, if_pos (by omega), if_neg (by omega), if_neg (by omega)]
  · rw [if_neg e2]
    by_cases e1 : j = q * 3 + 1
    · subst e1
      rw [if_pos rfl, if_pos (by omega), if_neg (by omega), if_pos (by omega), show (q * 3 + 1) / 3 = q by omega]
    · rw [if_neg e1]
      by_cases e0 : j = q * 3
      · subst e0
        rw [if_pos rfl, if_pos (by omega), if_pos (by omega)]
      · rw [if_neg e0]
        by_cases hq : j / 3 < q
        · rw [if_pos hq, if_pos (by omega)]
        · rw [if_neg hq, if_neg (by omega)]
/-- The spans. -/
def spF (fi la : Nat → Int) : Nat → Value := fun j => if j % 2 = 0 then .int .i64 (fi (j / 2)) else .int .i64 (la (j / 2))
theorem sp_set0 {w : World} {g n : Nat} {fi la : Nat → Int} (h : w.rowIs g 27 n (spF fi la)) (t : Nat) (x : Int) : (w.setCell ⟨g, t * 2, none⟩ (.int .i64 x)).rowIs g 27 n (spF (upd fi t x) la) := by
  refine row_put h (t * 2) _ _ (fun j _ => ?_)
  unfold spF
  by_cases e : j = t * 2
  · subst e
    rw [if_pos rfl, if_pos (by omega), show t * 2 / 2 = t by omega, upd_same]
  · rw [if_neg e]
    by_cases h0 : j % 2 = 0
    · rw [if_pos h0, if_pos h0, upd_other _ _ (by omega)]
    · rw [if_neg h0, if_neg h0]
theorem sp_set1 {w : World} {g n : Nat} {fi la : Nat → Int} (h : w.rowIs g 27 n (spF fi la)) (t : Nat) (x : Int) : (w.setCell ⟨g, t * 2 + 1, none⟩ (.int .i64 x)).rowIs g 27 n (spF fi (upd la t x)) := by
  refine row_put h (t * 2 + 1) _ _ (fun j _ => ?_)
  unfold spF
  by_cases e : j = t * 2 + 1
  · subst e
    rw [if_pos rfl, if_neg (by omega), show (t * 2 + 1) / 2 = t by omega, upd_same]
  · rw [if_neg e]
    by_cases h0 : j % 2 = 0
    · rw [if_pos h0, if_pos h0]
    · rw [if_neg h0, if_neg h0, upd_other _ _ (by omega)]
theorem sp0 {w : World} {g n v : Nat} {fi la : Nat → Int} (h : w.rowIs g 27 (n * 2) (spF fi la)) (hv : v < n) : w.cell? ⟨g, v * 2, none⟩ = some (.int .i64 (fi v)) ∧ w.cell? ⟨g, v * 2 + 1, none⟩ = some (.int .i64 (la v)) := by
  refine ⟨(h.cell (by omega)).trans ?_, (h.cell (by omega)).trans ?_⟩
  · unfold spF; rw [if_pos (by omega), show v * 2 / 2 = v by omega]
  · unfold spF; rw [if_neg (by omega), show (v * 2 + 1) / 2 = v by omega]
def upI (q : Nat) : Nat → Int := fun v => if v < q then -1 else 0
theorem upI_step (q : Nat) : upd (upI q) q (-1) = upI (q + 1) := by
  funext v
  unfold upd upI
  by_cases e : v = q
  · subst e; simp
  · rw [if_neg e]
    by_cases h : v < q
    · rw [if_pos h, if_pos (by omega)]
    · rw [if_neg h, if_neg (by omega)]
theorem FI_step1 (tx : Nat → Nat) (i : Nat) (h : FI tx i (tx i) < 0) : upd (FI tx i) (tx i) (i : Int) = FI tx (i + 1) := by
  funext v
  rw [FI]
  unfold upd
  by_cases e : v = tx i
  · subst e; rw [if_pos rfl, if_pos ⟨rfl, h⟩]
  · rw [if_neg e, if_neg (fun x => e x.1)]
theorem FI_step0 (tx : Nat → Nat) (i : Nat) (h : ¬ FI tx i (tx i) < 0) : FI tx i = FI tx (i + 1) := by
  funext v
  rw [FI, if_neg]
  rintro ⟨e, h2⟩
  rw [e] at h2
  exact h h2
theorem LA_step (tx : Nat → Nat) (i : Nat) : upd (LA tx i) (tx i) (i : Int) = LA tx (i + 1) := by
  funext v
  rw [LA]
  rfl
/-- The matrix in memory, its first q rows made. -/
structure Ad (w : World) (gA n q : Nat) (R : Nat → Nat) (m : Nat → Nat → Bool) : Prop where
  row : w.rowIs gA 33 n (fun v => if v < q then .slice (some ⟨R v, 0, none⟩) n n else .slice none 0 0)
  el : ∀ v, v < q → w.rowIs (R v) 4 n (fun j => .bool (m v j))
  inj : ∀ u v, u < q → v < q → R u = R v → u = v
namespace Ad
variable {w w' : World} {gA n q : Nat} {R : Nat → Nat} {m m' : Nat → Nat → Bool}
theorem keep {P : Nat → Prop} (h : Ad w gA n q R m) (t : Turn P w w') (hP : ∀ k, P k → TyIs w k 3 ∨ TyIs w k 36) : Ad w' gA n q R m := by
  have key : ∀ {k : Nat} {E : TypeId}, TyIs w k E → E ≠ 3 → E ≠ 36 → ¬ P k := by
    intro k E hk h3 h36 hp
    rcases hP k hp with e | e
    · exact e.ne hk (fun x => h3 x.symm) rfl
    · exact e.ne hk (fun x => h36 x.symm) rfl
  exact ⟨t.row h.row (key (rowTy h.row) (by decide) (by decide)), fun v hv => t.row (h.el v hv) (key (rowTy (h.el v hv)) (by decide) (by decide)), h.inj⟩
theorem turn (h : Ad w gA n q R m) (t : Turn (fun _ => False) w w') : Ad w' gA n q R m := h.keep t (fun _ y => y.elim)
theorem congr (h : Ad w gA n q R m) (e : ∀ u x, u < q → x < n → m u x = m' u x) : Ad w gA n q R m' :=
  ⟨h.row, fun v hv => (h.el v hv).congr (fun j hj => by rw [e v j hv hj]), h.inj⟩
/-- 'adj[q] = make([]bool, n)'. -/
theorem make (h : Ad w gA n q R (fun _ _ => false)) (hq : q < n) : Ad ((w.alloc (.cells (madeCells #[.bool false] n) 4)).setCell ⟨gA, q, none⟩ (.slice (some ⟨w.heap.size, 0, none⟩) n n)) gA n (q + 1) (upd R q w.heap.size) (fun _ _ => false) := by
  have t1 : Turn (fun _ => False) w (w.alloc (.cells (madeCells #[.bool false] n) 4)) := (Turn.refl _ _).alloc _
  have h1 := h.turn t1
  have hr := World.rowIs_made w (.bool false) n 4
  have hne : ∀ v, v < q → R v < w.heap.size := fun v hv => (h.el v hv).lt
  have hA : gA < w.heap.size := h.row.lt
  have t2 : Turn (fun k => k = gA) (w.alloc (.cells (madeCells #[.bool false] n) 4)) ((w.alloc (.cells (madeCells #[.bool false] n) 4)).setCell ⟨gA, q, none⟩ (.slice (some ⟨w.heap.size, 0, none⟩) n n)) := (Turn.refl (fun k => k = gA) _).setCell (p := ⟨gA, q, none⟩) (.inr rfl) _
  refine ⟨?_, ?_, ?_⟩
  · refine row_put h1.row q _ _ (fun j hj => ?_)
    by_cases e : j = q
    · subst e; rw [if_pos rfl, if_pos (by omega), upd_same]
    · rw [if_neg e]
      by_cases hj : j < q
      · rw [if_pos hj, if_pos (by omega), upd_other _ _ e]
      · rw [if_neg hj, if_neg (by omega)]
  · intro v hv
    by_cases e : v = q
    · subst e; rw [upd_same]
      exact t2.row hr (fun y => by omega)
    · rw [upd_other _ _ e]
      refine t2.row (h1.el v (by omega)) (fun y => ?_)
      exact (rowTy (h.el v (by omega))).ne (rowTy h.row) (by decide) y
  · intro u v hu hv e
    by_cases eu : u = q
    · subst eu
      rw [upd_same] at e
      by_cases ev : v = u
      · exact ev.symm
      · rw [upd_other _ _ ev] at e
        have := hne v (by omega)
        omega
    · rw [upd_other _ _ eu] at e
      by_cases ev : v = q
      · subst ev
        rw [upd_same] at e
        have := hne u (by omega)
        omega
      · rw [upd_other _ _ ev] at e
        exact h.inj u v (by omega) (by omega) e
/-- 'adj[a][b] = true'. -/
theorem set (h : Ad w gA n q R m) {a b : Nat} (ha : a < q) (c : Bool) : Ad (w.setCell ⟨R a, b, none⟩ (.bool c)) gA n q R (fun u x => if u = a ∧ x = b then c else m u x) := by
  have t2 : Turn (fun k => k = R a) w (w.setCell ⟨R a, b, none⟩ (.bool c)) := (Turn.refl (fun k => k = R a) _).setCell (p := ⟨R a, b, none⟩) (.inr rfl) _
  refine ⟨t2.row h.row (fun y => (rowTy h.row).ne (rowTy (h.el a ha)) (by decide) y), fun v hv => ?_, h.inj⟩
  by_cases e : v = a
  · subst e
    refine row_put (h.el v hv) b _ _ (fun j hj => ?_)
    by_cases ej : j = b
    · rw [if_pos ej, if_pos ⟨rfl, ej⟩]
    · rw [if_neg ej, if_neg (fun x => ej x.2)]
  · have h1 := t2.row (h.el v hv) (fun y => e (h.inj v a hv ha y))
    refine h1.congr (fun j hj => ?_)
    rw [if_neg (fun x => e x.1)]
theorem at_ (h : Ad w gA n n R m) {v : Nat} (hv : v < n) : w.cell? ⟨gA, v, none⟩ = some (.slice (some ⟨R v, 0, none⟩) n n) := by
  refine (h.row.cell hv).trans ?_
  rw [if_pos hv]
theorem cell (h : Ad w gA n n R m) {v x : Nat} (hv : v < n) (hx : x < n) : w.cell? ⟨R v, x, none⟩ = some (.bool (m v x)) := (h.el v hv).cell hx
end Ad
theorem Bm.keepA {w w' : World} {H gR cap : Nat} {b : BS} {A : Nat → Option Addr} {C : Nat → Nat} {P : Nat → Prop} (h : Bm w H gR cap b A C) (t : Turn P w w') (hP : ∀ k, k < w.heap.size → P k → H ≤ k ∧ k ≠ gR ∧ ∀ v, v < b.len → A v ≠ some ⟨k, 0, none⟩) : Bm w' H gR cap b A C :=
  ⟨h.row.turn t (fun g e y => by cases e; exact (hP _ h.lt y).2.1 rfl), h.hR, fun v hv => (h.el v hv).turn t (fun k hk y => ⟨(hP k hk y).1, (hP k hk y).2.2 v hv⟩), h.di, h.ty⟩
theorem Bm.tyR {w : World} {H gR cap : Nat} {b : BS} {A : Nat → Option Addr} {C : Nat → Nat} (h : Bm w H gR cap b A C) : TyIs w gR 36 := h.row.ty gR rfl
/-- succ and its copy. -/
structure Two (w : World) (H gS gK n : Nat) (G G' : Nat → List Nat) (A : Nat → Option Addr) (C : Nat → Nat) (A' : Nat → Option Addr) (C' : Nat → Nat) : Prop where
  s : Bm w H gS n ⟨n, G, none⟩ A C
  c : Bm w H gK n ⟨n, G', none⟩ A' C'
  x : ∀ u v, u < n → v < n → ∀ g, A u = some ⟨g, 0, none⟩ → A' v ≠ some ⟨g, 0, none⟩
  ne : gS ≠ gK
  lo : ∀ u, u < n → ∀ g, A u = some ⟨g, 0, none⟩ → H ≤ g
  lo' : ∀ u, u < n → ∀ g, A' u = some ⟨g, 0, none⟩ → H ≤ g
namespace Two
variable {w w' : World} {H gS gK n : Nat} {G G' : Nat → List Nat} {A : Nat → Option Addr} {C : Nat → Nat} {A' : Nat → Option Addr} {C' : Nat → Nat}
theorem symm (h : Two w H gS gK n G G' A C A' C') : Two w H gK gS n G' G A' C' A C := ⟨h.c, h.s, fun u v hu hv g e1 e2 => h.x v u hv hu g e2 e1, fun e => h.ne e.symm, h.lo', h.lo⟩
theorem turn (h : Two w H gS gK n G G' A C A' C') (t : Turn (fun _ => False) w w') : Two w' H gS gK n G G' A C A' C' := ⟨h.s.turn t, h.c.turn t, h.x, h.ne, h.lo, h.lo'⟩
theorem ty (h : Two w H gS gK n G G' A C A' C') {u g : Nat} (hu : u < n) (e : A u = some ⟨g, 0, none⟩) : TyIs w g 3 := by
  rcases h.s.el u hu with ⟨_, _, h3⟩ | ⟨g', e', _, ho⟩
  · obtain ⟨b, e1, hb, _⟩ := h3 _ e
    cases e1
    have := h.lo u hu _ e
    omega
  · rw [e'] at e
    cases e
    exact ho.ty _ e'
/-- A change in blocks of other types. -/
theorem keep {P : Nat → Prop} (h : Two w H gS gK n G G' A C A' C') (t : Turn P w w') (hP : ∀ k, P k → H ≤ k ∧ ∃ E, TyIs w k E ∧ E ≠ 3 ∧ E ≠ 36) : Two w' H gS gK n G G' A C A' C' := by
  have k36 : ∀ {k g : Nat}, P k → TyIs w g 36 → k ≠ g := fun y hg => by
    obtain ⟨_, E, h1, _, h3⟩ := hP _ y
    exact h1.ne hg h3
  have k3 : ∀ {k g : Nat}, P k → TyIs w g 3 → k ≠ g := fun y hg => by
    obtain ⟨_, E, h1, h2, _⟩ := hP _ y
    exact h1.ne hg h2
  exact ⟨h.s.keepA t (fun k _ y => ⟨(hP k y).1, k36 y h.s.tyR, fun v hv e => k3 y (h.ty hv e) rfl⟩), h.c.keepA t (fun k _ y => ⟨(hP k y).1, k36 y h.c.tyR, fun v hv e => k3 y (h.symm.ty hv e) rfl⟩), h.x, h.ne, h.lo, h.lo'⟩
/-- 'succ[a] = append(succ[a], y)'. -/
theorem put (h : Two w H gS gK n G G' A C A' C') {a y g' cap' : Nat} (ha : a < n) (he : El w' H (some ⟨g', 0, none⟩) (G a ++ [y]) cap') (hg : H ≤ g') (t : Turn (fun k => H ≤ k ∧ A a = some ⟨k, 0, none⟩) w w') (hl : A a = some ⟨g', 0, none⟩ ∨ w.heap.size ≤ g') :
    Two (w'.setCell ⟨gS, a, none⟩ (.slice (some ⟨g', 0, none⟩) ((G a).length + 1) cap')) H gS gK n (upd G a (G a ++ [y])) G' (upd A a (some ⟨g', 0, none⟩)) (upd C a cap') A' C' ∧
    Turn (fun k => k = gS ∨ (H ≤ k ∧ A a = some ⟨k, 0, none⟩)) w (w'.setCell ⟨gS, a, none⟩ (.slice (some ⟨g', 0, none⟩) ((G a).length + 1) cap')) := by
  have t2 : Turn (fun k => k = gS ∨ (H ≤ k ∧ A a = some ⟨k, 0, none⟩)) w (w'.setCell ⟨gS, a, none⟩ (.slice (some ⟨g', 0, none⟩) ((G a).length + 1) cap')) := (t.mono (fun _ _ y => .inr y)).setCell (p := ⟨gS, a, none⟩) (.inr (.inl rfl)) _
  refine ⟨⟨h.s.put ha he hg t hl, h.c.keepA t2 (fun k hk y => ?_), ?_, h.ne, ?_, h.lo'⟩, t2⟩
  · rcases y with rfl | ⟨y1, y2⟩
    · exact ⟨h.s.hR, h.ne, fun v hv e => (h.symm.ty hv e).ne h.s.tyR (by decide) rfl⟩
    · exact ⟨y1, fun e => (h.ty ha y2).ne h.c.tyR (by decide) e, fun v hv e => h.x a v ha hv k y2 e⟩
  · intro u v hu hv g e1 e2
    by_cases eu : u = a
    · subst eu
      rw [upd_same] at e1
      cases e1
      rcases hl with e | e
      · exact h.x u v hu hv _ e e2
      · obtain ⟨b', e3, hb'⟩ := (h.c.el v hv).addr _ e2
        cases e3
        omega
    · rw [upd_other _ _ eu] at e1
      exact h.x u v hu hv g e1 e2
  · intro u hu g e
    by_cases eu : u = a
    · subst eu; rw [upd_same] at e; cases e; exact hg
    · rw [upd_other _ _ eu] at e; exact h.lo u hu g e
/-- .. beside the matrix. -/
theorem step (h : Two w H gS gK n G G' A C A' C') {gA q : Nat} {R : Nat → Nat} {m : Nat → Nat → Bool} (hA : Ad w gA n q R m) {w0 : World} (t0 : Turn (fun _ => False) w0 w) (hH : w0.heap.size = H) {a y g' cap' : Nat} (ha : a < n) (he : El w' H (some ⟨g', 0, none⟩) (G a ++ [y]) cap') (hg : H ≤ g') (t : Turn (fun k => H ≤ k ∧ A a = some ⟨k, 0, none⟩) w w') (hl : A a = some ⟨g', 0, none⟩ ∨ w.heap.size ≤ g') :
    Two (w'.setCell ⟨gS, a, none⟩ (.slice (some ⟨g', 0, none⟩) ((G a).length + 1) cap')) H gS gK n (upd G a (G a ++ [y])) G' (upd A a (some ⟨g', 0, none⟩)) (upd C a cap') A' C' ∧
    Ad (w'.setCell ⟨gS, a, none⟩ (.slice (some ⟨g', 0, none⟩) ((G a).length + 1) cap')) gA n q R m ∧ Turn (fun _ => False) w0 (w'.setCell ⟨gS, a, none⟩ (.slice (some ⟨g', 0, none⟩) ((G a).length + 1) cap')) := by
  obtain ⟨h1, t1⟩ := h.put ha he hg t hl
  refine ⟨h1, hA.keep t1 (fun k y => ?_), t0.trans t1 (fun i hi y => ?_)⟩
  · rcases y with rfl | ⟨_, y⟩
    · exact .inr h.s.tyR
    · exact .inl (h.ty ha y)
  · rcases y with rfl | ⟨y, _⟩
    · have := h.s.hR; omega
    · omega
theorem reads (h : Two w H gS gK n G G' A C A' C') {v : Nat} (hv : v < n) : w.cell? ⟨gS, v, none⟩ = some (.slice (A v) (G v).length (C v)) ∧ Reads w (A v) (G v).length (fun j => (G v).getD j 0) := ⟨(h.s.cell hv).1, (h.s.el v hv).reads⟩
end Two
theorem two_made (w : World) (n : Nat) (hn : n ≤ 1000) : Two (((w.alloc (.cells (madeCells #[.slice none 0 0] n) 36)).alloc (.cells (madeCells #[.slice none 0 0] n) 36)).alloc (.cells (madeCells #[.slice none 0 0] n) 33)) w.heap.size w.heap.size (w.heap.size + 1) n (fun _ => []) (fun _ => []) (fun _ => none) (fun _ => 0) (fun _ => none) (fun _ => 0) := by
  have e : (w.alloc (.cells (madeCells #[.slice none 0 0] n) 36)).heap.size = w.heap.size + 1 := by simp
  have h1 := Bm.made w n hn (fun _ => []) (fun _ => none) (fun _ => 0) (fun _ => rfl) (fun _ => rfl) (fun _ => rfl) w.heap.size (Nat.le_refl _)
  have h2 := Bm.made (w.alloc (.cells (madeCells #[.slice none 0 0] n) 36)) n hn (fun _ => []) (fun _ => none) (fun _ => 0) (fun _ => rfl) (fun _ => rfl) (fun _ => rfl) w.heap.size (by omega)
  rw [e] at h2
  exact ⟨(h1.turn ((Turn.refl _ _).alloc _)).turn ((Turn.refl _ _).alloc _), h2.turn ((Turn.refl _ _).alloc _), (fun _ _ _ _ _ e => by cases e), by omega, (fun _ _ _ e => by cases e), (fun _ _ _ e => by cases e)⟩
theorem ad_made (w : World) (n : Nat) : Ad (((w.alloc (.cells (madeCells #[.slice none 0 0] n) 36)).alloc (.cells (madeCells #[.slice none 0 0] n) 36)).alloc (.cells (madeCells #[.slice none 0 0] n) 33)) (w.heap.size + 1 + 1) n 0 (fun _ => 0) (fun _ _ => false) := by
  have e : ((w.alloc (.cells (madeCells #[.slice none 0 0] n) 36)).alloc (.cells (madeCells #[.slice none 0 0] n) 36)).heap.size = w.heap.size + 1 + 1 := by simp
  have h := World.rowIs_made ((w.alloc (.cells (madeCells #[.slice none 0 0] n) 36)).alloc (.cells (madeCells #[.slice none 0 0] n) 36)) (.slice none 0 0) n 33
  rw [e] at h
  exact ⟨h.congr (fun j _ => (if_neg (by omega)).symm), (fun v hv => absurd hv (by omega)), (fun u v hu => absurd hu (by omega))⟩
theorem GA_same {fa fb : Nat → Nat} {k : Nat} (h : fa k = fb k) : GA fa fb (k + 1) = GA fa fb k := by
  funext v
  rw [GA, if_pos h]
theorem GA_next {fa fb : Nat → Nat} {k : Nat} (h : fa k ≠ fb k) : GA fa fb (k + 1) = upd (GA fa fb k) (fa k) (GA fa fb k (fa k) ++ [fb k]) := by
  funext v
  rw [GA, if_neg h]
end Go.Proofs.Ybulkegnm
