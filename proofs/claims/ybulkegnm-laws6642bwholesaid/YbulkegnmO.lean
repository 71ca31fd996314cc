import Derived.Test.YbulkegnmT
import Derived.Test.YbulkegnmM
import Derived.Test.YbulkegnmG
namespace Go.Proofs.Ybulkegnm
open Go Go.RowKit

theorem info36 : (Yba.prog.info? 36).map (fun i => (i.zero, i.size, i.bytes)) = some (some (.slice none 0 0), 1, 24) := by kernel_rfl
/-- The classifier c in memory. -/
structure Cl (w : World) (Cb Gb gO gP gD gS n L cO : Nat) (G : Nat → List Nat) (sa : Nat → Option Addr) (sc : Nat → Nat) (fi la : Nat → Int) (tx : Nat → Nat) : Prop where
  c0 : w.cell? ⟨Cb, 0, none⟩ = some (.slice (some ⟨gO, 0, none⟩) L cO)
  c1 : w.cell? ⟨Cb, 1, none⟩ = some (.pointer (some ⟨Gb, 0, none⟩))
  c3 : w.cell? ⟨Cb, 3, none⟩ = some (.slice (some ⟨gP, 0, none⟩) n n)
  g2 : w.cell? ⟨Gb, 2, none⟩ = some (.int .i64 (-1))
  g3 : w.cell? ⟨Gb, 3, none⟩ = some (.slice (some ⟨gD, 0, none⟩) n n)
  g5 : w.cell? ⟨Gb, 5, none⟩ = some (.slice (some ⟨gS, 0, none⟩) n n)
  ops : ∀ i, i < L → w.cell? ⟨gO, i * 3, none⟩ = some (.int .u8 119) ∧ w.cell? ⟨gO, i * 3 + 1, none⟩ = some (.int .i64 (tx i : Nat)) ∧ w.cell? ⟨gO, i * 3 + 2, none⟩ = some (.string ⟨#[120]⟩)
  sp : ∀ v, v < n → w.cell? ⟨gP, v * 2, none⟩ = some (.int .i64 (fi v)) ∧ w.cell? ⟨gP, v * 2 + 1, none⟩ = some (.int .i64 (la v))
  de : ∀ v, v < n → w.cell? ⟨gD, v, none⟩ = some (.int .i64 (v : Nat))
  su : ∀ v, v < n → w.cell? ⟨gS, v, none⟩ = some (.slice (sa v) (G v).length (sc v)) ∧ (G v).length ≤ sc v ∧ (sa v = none → (G v).length = 0 ∧ sc v = 0) ∧ ∀ ad, sa v = some ad → ∃ b, ad = ⟨b, 0, none⟩ ∧ b < w.heap.size ∧ ∀ j, j < (G v).length → w.cell? ⟨b, j, none⟩ = some (nats (G v) j)
theorem Cl.turn {w w' : World} {Cb Gb gO gP gD gS n L cO : Nat} {G : Nat → List Nat} {sa : Nat → Option Addr} {sc : Nat → Nat} {fi la : Nat → Int} {tx : Nat → Nat} (h : Cl w Cb Gb gO gP gD gS n L cO G sa sc fi la tx) (t : Turn (fun _ => False) w w') : Cl w' Cb Gb gO gP gD gS n L cO G sa sc fi la tx where
  c0 := t.cell h.c0 (fun y => y)
  c1 := t.cell h.c1 (fun y => y)
  c3 := t.cell h.c3 (fun y => y)
  g2 := t.cell h.g2 (fun y => y)
  g3 := t.cell h.g3 (fun y => y)
  g5 := t.cell h.g5 (fun y => y)
  ops := fun i hi => ⟨t.cell (h.ops i hi).1 (fun y => y), t.cell (h.ops i hi).2.1 (fun y => y), t.cell (h.ops i hi).2.2 (fun y => y)⟩
  sp := fun v hv => ⟨t.cell (h.sp v hv).1 (fun y => y), t.cell (h.sp v hv).2 (fun y => y)⟩
  de := fun v hv => t.cell (h.de v hv) (fun y => y)
  su := fun v hv => ⟨t.cell (h.su v hv).1 (fun y => y), (h.su v hv).2.1, (h.su v hv).2.2.1, fun ad e => by
    obtain ⟨b, e1, e2, e3⟩ := (h.su v hv).2.2.2 ad e
    exact ⟨b, e1, Nat.lt_of_lt_of_le e2 t.size, fun j hj => t.cell (e3 j hj) (fun y => y)⟩⟩
/-- 'succ[v] = s[:len(s):len(s)]'. -/
theorem Bm.share {w : World} {H gR cap : Nat} {b : BS} {A : Nat → Option Addr} {C : Nat → Nat} (h : Bm w H gR cap b A C) {v : Nat} {a : Option Addr} {L : List Nat} (hv : v < b.len) (he : El w H a L L.length) (hn : ∀ g, H ≤ g → a ≠ some ⟨g, 0, none⟩) :
    Bm (w.setCell ⟨gR, v, none⟩ (.slice a L.length L.length)) H gR cap { b with f := upd b.f v L } (upd A v a) (upd C v L.length) := by
  have t2 : Turn (fun k => k = gR) w (w.setCell ⟨gR, v, none⟩ (.slice a L.length L.length)) := (Turn.refl (fun k => k = gR) _).setCell (p := ⟨gR, v, none⟩) (.inr rfl) _
  refine ⟨?_, h.hR, ?_, ?_, ?_⟩
  · refine h.row.set v _ _ (fun j hj => ?_)
    show Value.slice (upd A v a j) (upd b.f v L j).length (upd C v L.length j) = _
    by_cases e : j = v
    · subst e; rw [upd_same, upd_same, upd_same, if_pos rfl]
    · rw [upd_other _ _ e, upd_other _ _ e, upd_other _ _ e, if_neg e]
  · intro u hu
    show El _ H (upd A v a u) (upd b.f v L u) (upd C v L.length u)
    by_cases e : u = v
    · subst e; rw [upd_same, upd_same, upd_same]
      exact he.turn t2 (fun k _ hk => by subst hk; exact ⟨h.hR, hn _ h.hR⟩)
    · rw [upd_other _ _ e, upd_other _ _ e, upd_other _ _ e]
      exact (h.el u hu).turn t2 (fun k _ hk => by subst hk; exact ⟨h.hR, fun e2 => h.ty u hu _ e2 rfl⟩)
  · intro u x hu hx hux g hg' e1 e2
    by_cases eu : u = v
    · subst eu
      rw [upd_same] at e1
      exact hn g hg' e1
    · rw [upd_other _ _ eu] at e1
      by_cases ex : x = v
      · subst ex
        rw [upd_same] at e2
        exact hn g hg' e2
      · rw [upd_other _ _ ex] at e2
        exact h.di u x hu hx hux g hg' e1 e2
  · intro u hu g e
    by_cases eu : u = v
    · subst eu; rw [upd_same] at e
      intro eg
      subst eg
      exact hn _ h.hR e
    · rw [upd_other _ _ eu] at e; exact h.ty u hu g e
theorem upd_upto {α : Type} (G : Nat → α) (z : α) (k : Nat) : upd (fun v => if v < k then G v else z) k (G k) = fun v => if v < k + 1 then G v else z := by
  funext v
  unfold upd
  by_cases e : v = k
  · subst e; simp
  · simp only [if_neg e]
    by_cases h : v < k
    · rw [if_pos h, if_pos (by omega)]
    · rw [if_neg h, if_neg (by omega)]
theorem Bm.gr {w : World} {H gR cap : Nat} {b : BS} {A : Nat → Option Addr} {C : Nat → Nat} (h : Bm w H gR cap b A C) {B : Nat} {w' : World} (t : Turn (fun _ => False) w w') (hB : w.heap.size ≤ B) : Gr w' (fun c => c = B ∨ w'.heap.size ≤ c) gR b.len A (fun v => (b.f v).length) C (fun v j => (b.f v).getD j 0) := by
  have h' := h.turn t
  have hs := t.size
  refine ⟨fun v hv => (h'.cell hv).1, fun v hv => (h'.el v hv).reads, ?_, ?_⟩
  · have := h.lt
    omega
  · intro v hv b' o _ e
    obtain ⟨b2, e2, hb2⟩ := (h.el v hv).addr _ e
    cases e2
    omega
theorem rk_iff (b : BS) : (∃ r : Nat → Nat, ∀ v j, v < b.len → j < (b.f v).length → r ((b.f v).getD j 0) < r v) ↔ ∃ r, RkB b r := by
  constructor
  · rintro ⟨r, h⟩
    refine ⟨r, fun v hv x hx => ?_⟩
    obtain ⟨j, hj, rfl⟩ := List.getElem_of_mem hx
    have := h v j hv hj
    rwa [List.getD_eq_getElem?_getD, List.getElem?_eq_getElem hj] at this
  · rintro ⟨r, h⟩
    refine ⟨r, fun v j hv hj => ?_⟩
    rw [List.getD_eq_getElem?_getD, List.getElem?_eq_getElem hj]
    exact h v hv _ (List.getElem_mem hj)
theorem e36 : Yba.prog.elem 36 = 3 := by kernel_rfl
theorem run_full (a : Option Addr) (l c : Nat) (ha : ∀ ad, a = some ad → ∃ b, ad = ⟨b, 0, none⟩) (h : l ≤ c) (W : World) : (Instr.slice 36 (.slice a l c) none (some (.int .i64 (l : Int))) (some (.int .i64 (l : Int)))).run Yba.prog W = .ok (.slice a l l) W := by
  obtain ⟨f0, f1, f2, f3, f4⟩ := info_parts info3
  rw [run_slice_hm W 36 a l c Yba.underlying36 .i64 .i64 (l : Int) (l : Int) (by omega) (Int.le_refl _) (by omega)]
  cases a with
  | none => simp [sizeOf, typeInfo, e36, f1, f3, sliced]
  | some ad =>
    obtain ⟨b, rfl⟩ := ha ad rfl
    simp [sizeOf, typeInfo, e36, f1, f3, sliced, Addr.add]
theorem Bm.made (w : World) (n : Nat) (hn : n ≤ 1000) (f : Nat → List Nat) (A : Nat → Option Addr) (C : Nat → Nat) (hf : ∀ v, f v = []) (hA : ∀ v, A v = none) (hC : ∀ v, C v = 0) (H : Nat) (hH : H ≤ w.heap.size) :
    Bm (w.alloc (.cells (madeCells #[.slice none 0 0] n) 36)) H w.heap.size n ⟨n, f, none⟩ A C := by
  refine ⟨.inr ⟨w.heap.size, rfl, Nat.le_refl _, by unfold maxLen; omega, _, heap_alloc_new w _, by simp [madeCells], fun i hi => ?_⟩, hH, fun v _ => ?_, fun u v _ _ _ g _ e => ?_, fun v _ g e => ?_⟩
  · show _ = some (Value.slice (A i) (f i).length (C i))
    have hi' : i < n := by simpa using hi
    rw [hf, hA, hC]
    simp [madeCells, hi', Nat.mod_one]
  · show El _ H (A v) (f v) (C v)
    rw [hf, hA, hC]
    exact .inl ⟨rfl, fun _ => rfl, fun ad e => by cases e⟩
  · rw [hA] at e; cases e
  · rw [hA] at e; cases e
theorem Bm.relt {w : World} {H gR cap : Nat} {b b2 : BS} {A : Nat → Option Addr} {C : Nat → Nat} (h : Bm w H gR cap b A C) (hl : b2.len = b.len) (hf : b2.f = b.f) : Bm w H gR cap b2 A C := by
  obtain ⟨l, f, t⟩ := b
  obtain ⟨l2, f2, t2⟩ := b2
  simp only at hl hf
  subst hl
  subst hf
  exact ⟨h.row, h.hR, h.el, h.di, h.ty⟩
theorem commit_none {b : BS} (h : b.lt = none) (v : Nat) : (b.commit v).f = upd (upd b.f b.len []) v ((upd b.f b.len []) v ++ [b.len]) := by simp only [BS.commit, h]
theorem commit_some {b : BS} {l : Nat} (h : b.lt = some l) (v : Nat) : (b.commit v).f = upd (upd (upd b.f b.len []) v ((upd b.f b.len []) v ++ [b.len])) l ((upd (upd b.f b.len []) v ((upd b.f b.len []) v ++ [b.len])) l ++ [b.len]) := by simp only [BS.commit, h]
theorem row_one (w : World) (u : Value) (E : TypeId) : (w.alloc (.cells #[u] E)).rowIs w.heap.size E 1 (fun _ => u) := by
  refine ⟨#[u], heap_alloc_new w _, rfl, fun j hj => ?_⟩
  have : j = 0 := Nat.lt_one_iff.1 hj
  subst this
  rfl
def ltI (b : BS) : Int := match b.lt with | none => -1 | some l => (l : Int)

set_option maxHeartbeats 8000000 in
set_option maxRecDepth 100000 in
theorem order_any (Cb Gb gO gP gD gS n L cO : Nat) (G : Nat → List Nat) (sa : Nat → Option Addr) (sc : Nat → Nat) (fi la : Nat → Int) (tx : Nat → Nat) (w : World)
    (hC : Cl w Cb Gb gO gP gD gS n L cO G sa sc fi la tx) (hn0 : 0 < n) (hn : n ≤ 100) (hL : L ≤ 65536) (hLO : L ≤ cO) (hGl : ∀ v, (G v).length ≤ 65536) (hGn : ∀ v, n ≤ v → G v = []) (hG : ∀ v, v < n → ∀ x ∈ G v, x < n ∧ x ≠ v) (htx : ∀ i, i < L → tx i < n) (hla : ∀ v i : Nat, la v = (i : Int) → i < L ∧ tx i = v) (hfi : ∀ v, -1 ≤ fi v ∧ fi v ≤ 65536 ∧ -1 ≤ la v ∧ la v ≤ 65536) :
    Calls Yba.prog 4 #[.pointer (some ⟨Cb, 0, none⟩)] w fun e w' => ∃ fl, e = .returned (.bool fl) ∧ Turn (fun _ => False) w w' ∧ (fl = true ↔ ∃ r, RkB (bld n G fi la tx L) r) := by
  have HC : Hid (Cl w Cb Gb gO gP gD gS n L cO G sa sc fi la tx) := hC
  have HGl : Hid (∀ v, (G v).length ≤ 65536) := hGl
  have HGn : Hid (∀ v, n ≤ v → G v = []) := hGn
  have HG : Hid (∀ v, v < n → ∀ x ∈ G v, x < n ∧ x ≠ v) := hG
  have Htx : Hid (∀ i, i < L → tx i < n) := htx
  have Hla : Hid (∀ v i : Nat, la v = (i : Int) → i < L ∧ tx i = v) := hla
  have Hfi : Hid (∀ v, -1 ≤ fi v ∧ fi v ≤ 65536 ∧ -1 ≤ la v ∧ la v ≤ 65536) := hfi
  have hm36 := run_make_row' (P := Yba.prog) 31 36 (.slice none 0 0) 24 Yba.underlying31 info36 rfl .i64 .i64 n (by omega) (by omega)
  have x1 := hC.c1
  have x5 := hC.g5
  clear hGl hGn hG htx hla hfi hC
  go_enter Yba.func4, Yba.ntmps4
  go_upto_region 2 with fail
  have B1 : Hid (Bm (w.alloc (.cells (madeCells #[.slice none 0 0] n) 36)) w.heap.size w.heap.size n ⟨n, fun v => if v < 0 then G v else [], none⟩ (fun v => if v < 0 then sa v else none) (fun v => if v < 0 then (G v).length else 0)) := Bm.made w n (by omega) _ _ _ (fun v => if_neg (by omega)) (fun v => if_neg (by omega)) (fun v => if_neg (by omega)) _ (Nat.le_refl _)
  have T1 : Hid (Turn (fun _ => False) w (w.alloc (.cells (madeCells #[.slice none 0 0] n) 36))) := (Turn.refl _ _).alloc _
  obtain ⟨H, hH⟩ : ∃ H, H = w.heap.size := ⟨_, rfl⟩
  rw [← hH] at B1 ⊢
  have HH : Hid (H = w.heap.size) := hH
  generalize w.alloc (.cells (madeCells #[.slice none 0 0] n) 36) = w1 at B1 T1 ⊢
  clear hH hm36 x1 x5
  have x1 := (HC.out.turn T1.out).c1
  have x5 := (HC.out.turn T1.out).g5
  go_wp2_with fail
  go_loopg [29] n (fun gk i wr => ∃ k : Nat, k ≤ n ∧ gk = n - k ∧ i = .int .i64 k ∧ Hid (Turn (fun _ => False) w wr) ∧ Hid (Bm wr H H n ⟨n, fun v => if v < k then G v else [], none⟩ (fun v => if v < k then sa v else none) (fun v => if v < k then (G v).length else 0)))
  case atStart => exact ⟨0, Nat.zero_le _, rfl, rfl, T1, B1⟩
  case round =>
    obtain ⟨k, hk, hgk, rfl, HT, HB⟩ := hrel
    clear x1 x5 B1 T1
    by_cases hlt : k < n
    · as_aux_lemma =>
      have hd : decide ((k : Int) < (n : Int)) = true := by simp; omega
      have i0 : (0 : Int) ≤ (k : Int) := by omega
      have i1 : (k : Int) < (n : Int) := by omega
      obtain ⟨ys, hlc, _, had⟩ := (HC.out.turn HT.out).su k hlt
      have hsl := run_full (sa k) (G k).length (sc k) (fun ad e => by obtain ⟨b, e1, _⟩ := had ad e; exact ⟨b, e1⟩) hlc
      have HG2 := HGl.out k
      obtain ⟨yr, yf⟩ := HB.out.cell (v := k) hlt
      have HB2 : Hid (Bm (wr.setCell ⟨H, k, none⟩ (.slice (sa k) (G k).length (G k).length)) H H n ⟨n, fun v => if v < k + 1 then G v else [], none⟩ (fun v => if v < k + 1 then sa v else none) (fun v => if v < k + 1 then (G v).length else 0)) := by
        have h1 := HB.out.share (v := k) (a := sa k) (L := G k) hlt (.inl ⟨rfl, fun e => ((HC.out.su k hlt).2.2.1 e).1, fun ad e => by
          obtain ⟨b, e1, e2, _⟩ := (HC.out.su k hlt).2.2.2 ad e
          obtain ⟨b', e1', _, e3'⟩ := had ad e
          rw [e1] at e1'
          cases e1'
          exact ⟨b, e1, by have := HH.out; omega, Nat.lt_of_lt_of_le e2 HT.out.size, e3'⟩⟩) (fun g hg e => by
          obtain ⟨b, e1, e2, _⟩ := (HC.out.su k hlt).2.2.2 _ e
          cases e1
          have := HH.out
          omega)
        simp only at h1
        rw [upd_upto, upd_upto, upd_upto (fun v => (G v).length)] at h1
        exact h1
      have HT2 : Hid (Turn (fun _ => False) w (wr.setCell ⟨H, k, none⟩ (.slice (sa k) (G k).length (G k).length))) := HT.out.setCell (p := ⟨H, k, none⟩) (.inl (by have := HH.out; show w.heap.size ≤ H; omega)) _
      generalize hgl : (G k).length = l at hlc hsl ys HB2 HT2 HG2 yr
      clear hgl had
      go_wp2_with fail
      go_roundg (n - (k + 1))
      case measure => omega
      case rel => exact ⟨k + 1, by omega, rfl, val_int (by omega), HT2, HB2⟩
    · have hd : decide ((k : Int) < (n : Int)) = false := by simp; omega
      obtain rfl : k = n := by omega
      have hfG : (fun v => if v < k then G v else []) = G := by
        funext v
        split
        · rfl
        · exact (HGn.out v (by omega)).symm
      rw [hfG] at HB
      have HB0 : Hid (Bm wr H H k (bld k G fi la tx 0) (fun v => if v < k then sa v else none) (fun v => if v < k then (G v).length else 0)) := HB
      obtain ⟨A0, hA0⟩ : ∃ A0, A0 = (fun v => if v < k then sa v else none) := ⟨_, rfl⟩
      obtain ⟨C0, hC0⟩ : ∃ C0, C0 = (fun v => if v < k then (G v).length else 0) := ⟨_, rfl⟩
      rw [← hA0, ← hC0] at HB0
      clear HB hfG hA0 hC0 hk hgk hlt
      have x0 := (HC.out.turn HT.out).c0
      obtain ⟨w2, hw2⟩ : ∃ w2, w2 = wr := ⟨_, rfl⟩
      rw [← hw2] at x0 HT HB0 ⊢
      clear hw2
      go_wp2_with fail
      go_loopg [3, 6, 49] L (fun gk s3 s6 i wr => ∃ (m gR cap : Nat) (A : Nat → Option Addr) (C : Nat → Nat), m ≤ L ∧ gk = L - m ∧ i = .int .i64 m ∧ s3 = .slice (some ⟨gR, 0, none⟩) (bld k G fi la tx m).len cap ∧ s6 = .int .i64 (ltI (bld k G fi la tx m)) ∧ Hid (Turn (fun _ => False) w wr) ∧ Hid (Bm wr H gR cap (bld k G fi la tx m) A C))
      case atStart => exact ⟨0, H, k, A0, C0, Nat.zero_le _, rfl, rfl, rfl, rfl, HT, HB0⟩
      case round =>
        clear x0 HB0 HT
        obtain ⟨m, gR, cap, A, C, hm, hgm, rfl, rfl, rfl, HT, HB⟩ := hrel
        by_cases hlt : m < L
        · have hd : decide ((m : Int) < (L : Int)) = true := by simp; omega
          have i0 : (0 : Int) ≤ (m : Int) := by omega
          have i1 : (m : Int) < (L : Int) := by omega
          obtain ⟨z0, z1, z2⟩ := (HC.out.turn HT.out).ops m hlt
          have htm := Htx.out m hlt
          obtain ⟨v, hv⟩ : ∃ v, v = tx m := ⟨_, rfl⟩
          rw [← hv] at z1 htm
          have HV : Hid (v = tx m) := hv
          obtain ⟨b, hb⟩ : ∃ b, b = bld k G fi la tx m := ⟨_, rfl⟩
          rw [← hb] at HB ⊢
          have Hb : Hid (b = bld k G fi la tx m) := hb
          clear hv hb
          go_upto_region 11 with fail
          have T2 : Hid (Turn (fun _ => False) w (wr.alloc (.cells #[.int .u8 119, .int .i64 (v : Int), .string ⟨#[120]⟩] 30))) := HT.out.alloc _
          have B2 : Hid (Bm (wr.alloc (.cells #[.int .u8 119, .int .i64 (v : Int), .string ⟨#[120]⟩] 30)) H gR cap b A C) := HB.out.turn ((Turn.refl _ _).alloc _)
          have xo : (wr.alloc (.cells #[.int .u8 119, .int .i64 (v : Int), .string ⟨#[120]⟩] 30)).cell? ⟨wr.heap.size, 1, none⟩ = some (.int .i64 (v : Int)) := by
            rw [cell_of_row _ _ _ _ _ _ (heap_alloc_new wr _)]; rfl
          obtain ⟨P, hP⟩ : ∃ P, P = wr.heap.size := ⟨_, rfl⟩
          rw [← hP] at xo ⊢
          generalize wr.alloc (.cells #[.int .u8 119, .int .i64 (v : Int), .string ⟨#[120]⟩] 30) = w3 at T2 B2 xo ⊢
          clear HT HB z0 z1 z2 hP
          have x1 := (HC.out.turn T2.out).c1
          have hnode := fun q => node_any Gb gD k v (w3.drewN q) (HC.out.turn (T2.out.drewN q)).g2 (HC.out.turn (T2.out.drewN q)).g3 ((HC.out.turn (T2.out.drewN q)).de v htm) htm
          go_quiet ((go_at_call 5; exact Calls.quiet_of (hnode _)))
          clear hnode xo x1
          generalize hwq : w3.drewN _ = w4
          have T4 : Hid (Turn (fun _ => False) w w4) := by rw [← hwq]; exact T2.out.drewN _
          have B4 : Hid (Bm w4 H gR cap b A C) := by rw [← hwq]; exact B2.out.turn ((Turn.refl _ _).drewN _)
          clear hwq T2 B2
          have HW : Hid (BW k b) := by rw [Hb.out]; exact bld_wf HG.out Htx.out m (by omega)
          have HDg : Hid (∀ x, (b.f x).length ≤ 300000) := by
            intro x
            rw [Hb.out]
            have h1 := bld_deg k G fi la tx x m
            have h2 := HGl.out x
            omega
          have x3 := (HC.out.turn T4.out).c3
          obtain ⟨p0, p1⟩ := (HC.out.turn T4.out).sp v htm
          have v0 : (0 : Int) ≤ (v : Int) := by omega
          have v1 : (v : Int) < (k : Int) := by omega
          go_upto_region 12 with fail
          go_cut [74] from 61 to 73 (fun s74 wx => ∃ c : Bool, s74 = .bool c ∧ wx = w4 ∧ Hid (c = (decide (fi v = (m : Int)) && decide (0 ≤ ltI b))))
          case first =>
            by_cases hf : fi v = (m : Int)
            · have hf1 : (fi v == (m : Int)) = true := by simp [hf]
              have hf2 : ((m : Int) == (m : Int)) = true := by simp
              by_cases hl : 0 ≤ ltI b
              · have hl1 : decide (0 ≤ ltI b) = true := by simp [hl]
                have HE : Hid (true = (decide (fi v = (m : Int)) && decide (0 ≤ ltI b))) := by show true = _; simp [hf, hl]
                clear hf hl
                go_wp2_with fail
                go_meet
                case rel => exact ⟨true, rfl, rfl, HE⟩
              · have hl1 : decide (0 ≤ ltI b) = false := by simp; omega
                have HE : Hid (false = (decide (fi v = (m : Int)) && decide (0 ≤ ltI b))) := by show false = _; rw [hl1]; simp
                clear hf hl
                go_wp2_with fail
                go_meet
                case rel => exact ⟨false, rfl, rfl, HE⟩
            · have hf1 : (fi v == (m : Int)) = false := by simp [hf]
              have HE : Hid (false = (decide (fi v = (m : Int)) && decide (0 ≤ ltI b))) := by show false = _; simp [hf]
              clear hf
              go_wp2_with fail
              go_meet
              case rel => exact ⟨false, rfl, rfl, HE⟩
          case rest =>
          obtain ⟨c, rfl, hwc, HCd⟩ := hcut
          subst hwc
          obtain ⟨w4, hw4⟩ : ∃ w4 : World, w4 = wc := ⟨_, rfl⟩
          rw [← hw4] at T4 B4 x3 p0 p1 ⊢
          clear hw4
          go_upto_if 74 with fail
          go_cut [6] from 74 to 84 (fun s6 wx => s6 = .int .i64 (ltI b) ∧ ∃ (A : Nat → Option Addr) (C : Nat → Nat), Hid (Turn (fun _ => False) w wx) ∧ Hid (Bm wx H gR cap (b.arcFirst fi m v) A C))
          case first =>
            as_aux_lemma =>
            cases c with
            | true =>
              have hcd := HCd.out
              simp only [Bool.true_eq, Bool.and_eq_true, decide_eq_true_eq] at hcd
              obtain ⟨hf, hlge⟩ := hcd
              cases hlb : b.lt with
              | none => simp [ltI, hlb] at hlge
              | some l =>
                have hli : ltI b = (l : Int) := by simp [ltI, hlb]
                have HLI : Hid (ltI b = (l : Int)) := hli
                have e1 : b.arcFirst fi m v = { b with f := upd b.f l (b.f l ++ [v]) } := by simp [BS.arcFirst, hlb, hf]
                have HE1 : Hid (b.arcFirst fi m v = { b with f := upd b.f l (b.f l ++ [v]) }) := e1
                have hll := (HW.out.lt l hlb).2
                have l0 : (0 : Int) ≤ (l : Int) := by omega
                have l1 : (l : Int) < (b.len : Int) := by omega
                rw [hli]
                obtain ⟨yl, fl⟩ := B4.out.cell (v := l) hll
                have B4a : Hid (Bm (w4.alloc (.cells #[.int .i64 (v : Int)] 3)) H gR cap b A C) := B4.out.turn ((Turn.refl _ _).alloc _)
                obtain ⟨yla, fla⟩ := B4a.out.cell (v := l) hll
                have Hel : Hid (El (w4.alloc (.cells #[.int .i64 (v : Int)] 3)) H (A l) (b.f l) (C l)) := B4a.out.el l hll
                have hdl := HDg.out l
                have hHs : H ≤ (w4.alloc (.cells #[.int .i64 (v : Int)] 3)).heap.size := by
                  have h1 := T4.out.size
                  have h2 := HH.out
                  simp
                  omega
                have nR : ¬ (H ≤ gR ∧ A l = some ⟨gR, 0, none⟩) := fun e => B4.out.ty l hll gR e.2 rfl
                have lR := B4a.out.lt
                clear e1 hf hlb hli hlge
                go_wp2_with (at_builtin; refine wpList_append_el _ rfl (.tmp 80) (.tmp 82) rfl H (A l) (b.f l) (C l) rfl Hel.out w4.heap.size 1 v rfl (new_cell _ _ _) (by omega) hHs ?_; intro g' c' w5 e5 hg5 t5 l5 ty5; have y5 := t5.cell yla nR; have f5 : w5.frozen? ⟨gR, l, none⟩ = false := (t5.frozen (p := ⟨gR, l, none⟩) lR nR).trans fla)
                go_meet
                case rel =>
                  refine ⟨by rw [HLI.out], _, _, ?_, by rw [HE1.out]; exact B4a.out.put hll e5 hg5 t5 l5⟩
                  exact (((T4.out.alloc _).trans t5 (fun i hi e => by have := HH.out; omega)).setCell (p := ⟨gR, l, none⟩) (.inl (by have := HH.out; have := B4.out.hR; show w.heap.size ≤ gR; omega)) _)
            | false =>
              have HE1 : Hid (b.arcFirst fi m v = b) := by
                have hcd := HCd.out
                show b.arcFirst fi m v = b
                unfold BS.arcFirst
                split
                · rfl
                · next l hl =>
                  rw [if_neg]
                  intro hf
                  simp [ltI, hl, hf] at hcd
              go_wp2_with fail
              go_meet
              case rel => exact ⟨rfl, A, C, T4, by rw [HE1.out]; exact B4⟩
          case rest =>
            obtain ⟨rfl, A5, C5, T5, B5⟩ := hcut
            obtain ⟨w5, hw5⟩ : ∃ w5 : World, w5 = wc := ⟨_, rfl⟩
            rw [← hw5] at T5 B5 ⊢
            clear hw5 T4 B4 x3 p0 p1
            obtain ⟨b', hb'⟩ : ∃ b', b' = b.arcFirst fi m v := ⟨_, rfl⟩
            rw [← hb'] at B5
            have hal := arcFirst_len b fi m v
            have hlen : b.len = b'.len := by rw [hb', hal.1]
            have hlt' : ltI b = ltI b' := by unfold ltI; rw [hb', hal.2]
            rw [hlen, hlt']
            have HW' : Hid (BW k b') := by rw [hb']; exact HW.out.first fi m htm
            have HDg' : Hid (∀ x, (b'.f x).length ≤ 300001) := by
              intro x
              have h1 := HDg.out x
              rw [hb']
              unfold BS.arcFirst
              split
              · omega
              · next l hl =>
                split
                · show (upd b.f l (b.f l ++ [v]) x).length ≤ _
                  by_cases e : x = l
                  · subst e; rw [upd_same]; simp; exact h1
                  · rw [upd_other _ _ e]; omega
                · omega
            have HS : Hid (bld k G fi la tx (m + 1) = if la v = (m : Int) then b'.commit v else b') := by
              show bld k G fi la tx (m + 1) = _
              rw [bld, BS.step, ← Hb.out, ← HV.out, hb']
            have x3 := (HC.out.turn T5.out).c3
            obtain ⟨p0, p1⟩ := (HC.out.turn T5.out).sp v htm
            clear hb' hal hlen hlt' HW HDg HCd
            by_cases hc : la v = (m : Int)
            · as_aux_lemma =>
              have HS1 : Hid (bld k G fi la tx (m + 1) = b'.commit v) := by rw [HS.out, if_pos hc]; exact rfl
              rw [hc] at p1
              have hq : ((m : Int) == (m : Int)) = true := by simp
              clear hc HS
              have HB' : Hid (H ≤ w5.heap.size) := by have := T5.out.size; have h2 := HH.out; show H ≤ _; omega
              have hlv : v < b'.len := by have := HW'.out.len; omega
              have B5a : Hid (Bm (w5.alloc (.cells #[.slice none 0 0] 36)) H gR cap b' A5 C5) := B5.out.turn ((Turn.refl _ _).alloc _)
              have T5a : Hid (Turn (fun _ => False) w (w5.alloc (.cells #[.slice none 0 0] 36))) := T5.out.alloc _
              have hbl : b'.len ≤ 1000000 := by
                have h1 := B5.out.row.le
                have h2 : (bld k G fi la tx (m + 1)).len = b'.len + 1 := by rw [HS1.out]; rfl
                have h3 := bld_len Htx.out Hla.out G fi (m + 1) (by omega)
                have h4 := cntB_le (fun v => decide (0 ≤ la v ∧ la v < ((m + 1 : Nat) : Int))) k
                omega
              have m1 : b'.len + 1 ≤ maxLen := by unfold maxLen; omega
              obtain ⟨q0, q1, q2, q3, q4⟩ := info_parts info36
              go_upto_region 17 with (at_builtin; refine wpList_append_k _ rfl (.tmp 97) (.tmp 98) 31 rfl 36 q0 (.slice none 0 0) 1 24 Yba.underlying31 q1 q2 q3 q4 rfl (by omega) (some ⟨gR, 0, none⟩) b'.len cap (fun v => .slice (A5 v) (b'.f v).length (C5 v)) rfl B5a.out.row w5.heap.size 1 (fun _ => .slice none 0 0) rfl (new_cell _ _ _) (fun _ _ => rfl) m1 (by omega) (w5.heap.size + 1) (by simp) ?_; intro g2 c2 w6 s6 t6 l6)
              have hgR := B5.out.hR
              have B6 : Hid (Bm w6 H g2 c2 { b' with len := b'.len + 1, f := upd b'.f b'.len [] } (upd A5 b'.len none) (upd C5 b'.len 0)) := B5a.out.push s6 t6 (by
                rcases l6 with e | e
                · exact .inl e
                · exact .inr (by rw [e]; simp)) (by have := HB'.out; simp; omega)
              have T6 : Hid (Turn (fun _ => False) w w6) := T5a.out.trans t6 (fun i hi e => by have := HH.out; cases e; omega)
              obtain ⟨b6, hb6⟩ : ∃ b6 : BS, b6 = { b' with len := b'.len + 1, f := upd b'.f b'.len [] } := ⟨_, rfl⟩
              rw [← hb6] at B6
              obtain ⟨A6, hA6⟩ : ∃ A6, A6 = upd A5 b'.len none := ⟨_, rfl⟩
              obtain ⟨C6, hC6⟩ : ∃ C6, C6 = upd C5 b'.len 0 := ⟨_, rfl⟩
              rw [← hA6, ← hC6] at B6
              have h6l : b6.len = b'.len + 1 := by rw [hb6]
              have H6 : Hid (b6.f = upd b'.f b'.len [] ∧ b6.len = b'.len + 1) := by rw [hb6]; exact ⟨rfl, rfl⟩
              clear hb6 hA6 hC6 s6 t6 l6 B5 B5a T5 T5a HB'
              have HD6 : Hid (∀ x, (b6.f x).length ≤ 300001) := by
                intro x
                rw [H6.out.1]
                by_cases e : x = b'.len
                · rw [e, upd_same]; simp
                · rw [upd_other _ _ e]; exact HDg'.out x
              have l1 : (v : Int) < ((b'.len + 1 : Nat) : Int) := by omega
              obtain ⟨yl, fl⟩ := B6.out.cell (v := v) (by omega)
              have B6a : Hid (Bm (w6.alloc (.cells #[.int .i64 (b'.len : Int)] 3)) H g2 c2 b6 A6 C6) := B6.out.turn ((Turn.refl _ _).alloc _)
              obtain ⟨yla, fla⟩ := B6a.out.cell (v := v) (by omega)
              have Hel : Hid (El (w6.alloc (.cells #[.int .i64 (b'.len : Int)] 3)) H (A6 v) (b6.f v) (C6 v)) := B6a.out.el v (by omega)
              have hdl := HD6.out v
              have hHs : H ≤ (w6.alloc (.cells #[.int .i64 (b'.len : Int)] 3)).heap.size := by
                have h1 := T6.out.size
                have h2 := HH.out
                simp
                omega
              have nR : ¬ (H ≤ g2 ∧ A6 v = some ⟨g2, 0, none⟩) := fun e => B6.out.ty v (by omega) g2 e.2 rfl
              have lR := B6a.out.lt
              go_upto_region 18 with (at_builtin; refine wpList_append_el _ rfl (.tmp 105) (.tmp 107) rfl H (A6 v) (b6.f v) (C6 v) rfl Hel.out w6.heap.size 1 b'.len rfl (new_cell _ _ _) (by omega) hHs ?_; intro g' c' w7 e7 hg7 t7 l7 ty7; have y7 := t7.cell yla nR; have f7 : w7.frozen? ⟨g2, v, none⟩ = false := (t7.frozen (p := ⟨g2, v, none⟩) lR nR).trans fla)
              have B7 := B6a.out.put (v := v) (by omega) e7 hg7 t7 l7
              have T7 : Turn (fun _ => False) w (w7.setCell ⟨g2, v, none⟩ (.slice (some ⟨g', 0, none⟩) ((b6.f v).length + 1) c')) := (((T6.out.alloc _).trans t7 (fun i hi e => by have := HH.out; omega)).setCell (p := ⟨g2, v, none⟩) (.inl (by have := HH.out; have := B6.out.hR; show w.heap.size ≤ g2; omega)) _)
              generalize w7.setCell ⟨g2, v, none⟩ (.slice (some ⟨g', 0, none⟩) ((b6.f v).length + 1) c') = w8 at B7 T7 ⊢
              obtain ⟨b7, hb7⟩ : ∃ b7 : BS, b7 = { b6 with f := upd b6.f v (b6.f v ++ [b'.len]) } := ⟨_, rfl⟩
              rw [← hb7] at B7
              obtain ⟨A7, hA7⟩ : ∃ A7, A7 = upd A6 v (some ⟨g', 0, none⟩) := ⟨_, rfl⟩
              obtain ⟨C7, hC7⟩ : ∃ C7, C7 = upd C6 v c' := ⟨_, rfl⟩
              rw [← hA7, ← hC7] at B7
              have H7 : Hid (b7.f = upd b6.f v (b6.f v ++ [b'.len]) ∧ b7.len = b'.len + 1) := by rw [hb7]; exact ⟨rfl, H6.out.2⟩
              have HB7 : Hid (Bm w8 H g2 c2 b7 A7 C7) := B7
              have HT7 : Hid (Turn (fun _ => False) w w8) := T7
              clear hb7 hA7 hC7 e7 t7 l7 hg7 B6 B6a T6 B7 T7 yl fl yla fla Hel nR lR y7 f7 hHs h6l ty7
              cases hlb : b'.lt with
              | none =>
                have hli : ltI b' = -1 := by simp [ltI, hlb]
                have HL : Hid (b'.lt = none) := hlb
                rw [hli]
                clear hlb hli
                go_wp2_with fail
                go_roundg (L - (m + 1))
                case measure => omega
                case rel =>
                  refine ⟨m + 1, g2, c2, A7, C7, by omega, rfl, val_int (by omega), by rw [HS1.out]; rfl, by rw [HS1.out]; rfl, HT7, ?_⟩
                  rw [HS1.out]
                  refine HB7.out.relt ?_ ?_
                  · rw [H7.out.2]; rfl
                  · rw [H7.out.1, H6.out.1]; exact commit_none HL.out v
              | some l =>
                have hli : ltI b' = (l : Int) := by simp [ltI, hlb]
                have HL : Hid (b'.lt = some l) := hlb
                have hll := (HW'.out.lt l hlb).2
                have hl7 : l < b7.len := by rw [H7.out.2]; omega
                have l0 : (0 : Int) ≤ (l : Int) := by omega
                have l2 : (l : Int) < ((b'.len + 1 : Nat) : Int) := by omega
                have hd0 : decide ((0 : Int) ≤ (l : Int)) = true := by simp
                rw [hli]
                obtain ⟨yl, fl⟩ := HB7.out.cell (v := l) hl7
                have B7a : Hid (Bm (w8.alloc (.cells #[.int .i64 (b'.len : Int)] 3)) H g2 c2 b7 A7 C7) := HB7.out.turn ((Turn.refl _ _).alloc _)
                obtain ⟨yla, fla⟩ := B7a.out.cell (v := l) hl7
                have Hel : Hid (El (w8.alloc (.cells #[.int .i64 (b'.len : Int)] 3)) H (A7 l) (b7.f l) (C7 l)) := B7a.out.el l hl7
                have hdl : (b7.f l).length ≤ 300002 := by
                  rw [H7.out.1]
                  by_cases e : l = v
                  · rw [e, upd_same]; have := HD6.out v; simp; omega
                  · rw [upd_other _ _ e]; have := HD6.out l; omega
                have hHs : H ≤ (w8.alloc (.cells #[.int .i64 (b'.len : Int)] 3)).heap.size := by
                  have h1 := HT7.out.size
                  have h2 := HH.out
                  simp
                  omega
                have nR : ¬ (H ≤ g2 ∧ A7 l = some ⟨g2, 0, none⟩) := fun e => HB7.out.ty l hl7 g2 e.2 rfl
                have lR := B7a.out.lt
                clear hlb hli
                go_wp2_with (at_builtin; refine wpList_append_el _ rfl (.tmp 117) (.tmp 119) rfl H (A7 l) (b7.f l) (C7 l) rfl Hel.out w8.heap.size 1 b'.len rfl (new_cell _ _ _) (by omega) hHs ?_; intro g3 c3 w9 e9 hg9 t9 l9 ty9; have y9 := t9.cell yla nR; have f9 : w9.frozen? ⟨g2, l, none⟩ = false := (t9.frozen (p := ⟨g2, l, none⟩) lR nR).trans fla)
                go_roundg (L - (m + 1))
                case measure => omega
                case rel =>
                  have B9 := B7a.out.put (v := l) hl7 e9 hg9 t9 l9
                  refine ⟨m + 1, g2, c2, upd A7 l (some ⟨g3, 0, none⟩), upd C7 l c3, by omega, rfl, val_int (by omega), by rw [HS1.out]; rfl, by rw [HS1.out]; rfl, ?_, ?_⟩
                  · exact (((HT7.out.alloc _).trans t9 (fun i hi e => by have := HH.out; omega)).setCell (p := ⟨g2, l, none⟩) (.inl (by have := HH.out; have := HB7.out.hR; show w.heap.size ≤ g2; omega)) _)
                  · rw [HS1.out]
                    refine B9.relt ?_ ?_
                    · show _ = b7.len
                      rw [H7.out.2]; rfl
                    · show _ = upd b7.f l (b7.f l ++ [b'.len])
                      rw [H7.out.1, H6.out.1]; exact commit_some HL.out v
            · have HS0 : Hid (bld k G fi la tx (m + 1) = b') := by rw [HS.out, if_neg hc]; exact rfl
              have hq : (la v == (m : Int)) = false := by simp [hc]
              clear hc HS
              go_wp2_with fail
              go_roundg (L - (m + 1))
              case measure => omega
              case rel => exact ⟨m + 1, gR, cap, A5, C5, by omega, rfl, val_int (by omega), by rw [HS0.out], by rw [HS0.out], T5, by rw [HS0.out]; exact B5⟩
        · as_aux_lemma =>
          have hd : decide ((m : Int) < (L : Int)) = false := by simp; omega
          obtain rfl : m = L := by omega
          obtain ⟨b, hb⟩ : ∃ b, b = bld k G fi la tx m := ⟨_, rfl⟩
          have HWf : Hid (BW k b) := by rw [hb]; exact bld_wf HG.out Htx.out m (Nat.le_refl _)
          have HDg : Hid (∀ x, (b.f x).length ≤ 300000) := by
            intro x
            rw [hb]
            have h1 := bld_deg k G fi la tx x m
            have h2 := HGl.out x
            omega
          have hbl : b.len ≤ 1000 := by
            have h3 := bld_len Htx.out Hla.out G fi m (Nat.le_refl _)
            have h4 := cntB_le (fun v => decide (0 ≤ la v ∧ la v < (m : Int))) k
            rw [hb]
            omega
          have Hb : Hid (b = bld k G fi la tx m) := hb
          rw [← hb] at HB ⊢
          have hrow := row_one wr (.bool true) 4
          have hcyc := cyc_any wr.heap.size b.len gR cap A (fun v => (b.f v).length) C (fun v j => (b.f v).getD j 0) (wr.alloc (.cells #[.bool true] 4)) hrow (HB.out.gr ((Turn.refl _ _).alloc _) (Nat.le_refl _)) (fun v j hv hj => by
            rw [List.getD_eq_getElem?_getD, List.getElem?_eq_getElem hj]
            exact HWf.out.arcs v hv _ (List.getElem_mem hj)) hbl (fun v _ => by have := HDg.out v; show (b.f v).length ≤ _; omega)
          clear hb hrow
          go_wp2_with (go_at_call 6; refine hcyc.mono ?_; rintro e w2 ⟨fl, rfl, t2, h2, i2⟩; have y2 : w2.cell? ⟨wr.heap.size, 0, none⟩ = some (.bool fl) := h2.cell Nat.zero_lt_one)
          go_ret
          refine ⟨fl, rfl, (HT.out.alloc _).trans t2 (fun i hi e => by
            have h := HT.out.size
            have e' : i = wr.heap.size := e
            omega), ?_⟩
          rw [← Hb.out]
          exact i2.trans (rk_iff b)
end Go.Proofs.Ybulkegnm
