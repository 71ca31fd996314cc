import Derived.Test.YbulkegooC1
import Derived.Maps.OwnSet
import Derived.Maps.Own
import Derived.Maps.OwnOps
import Derived.Maps.Views
namespace Go.Proofs.Ybulkegoo
open Go.RowKit Go.Maps Go.WideMaps

def str (s : ByteArray) : Lit := .string s.data.toList
theorem str_inj {s t : ByteArray} (h : str s = str t) : s = t := by
  unfold str at h
  have h : s.data.toList = t.data.toList := by injection h
  exact ByteArray.ext (Array.toList_inj.1 h)
def i64 (n : Int) : DataW Unit := .lit (.int .i64 n)
/-- The datum of an index over 'ks'. -/
structure IxD (D : DataW Unit) (ks : List ByteArray) : Prop where
  at_ : ∀ (i : Nat) s, ks[i]? = some s → Maps.has D (str s) = true ∧ D.atKey (str s) (i64 0) = i64 i
  no : ∀ s, s ∉ ks → Maps.has D (str s) = false
  size : Maps.size D = ks.length
theorem keyLit (s : ByteArray) : WideAt.IsKeyLit (str s) := trivial
theorem ixD_nil : IxD (.map []) [] := ⟨fun i s h => by simp at h, fun s _ => rfl, rfl⟩
theorem ixD_put {D : DataW Unit} {ks : List ByteArray} {key : ByteArray} (h : IxD D ks) (ht : Tidy D) (hk : key ∉ ks) : IxD (D.put (str key) (i64 ks.length)) (ks ++ [key]) where
  at_ i s hi := by
    by_cases hlt : i < ks.length
    · rw [List.getElem?_append_left hlt] at hi
      have hne : str s ≠ str key := fun e => hk (by rw [← str_inj e]; exact List.mem_of_getElem? hi)
      rw [has_put_other hne, atKey_put_other hne]
      exact h.at_ i s hi
    · rw [List.getElem?_append_right (by omega)] at hi
      obtain ⟨h0, h1⟩ := List.getElem?_eq_some_iff.1 hi
      have : i = ks.length := by simp at h0; omega
      subst this
      simp at h1
      subst h1
      exact ⟨has_put_same ht.isMap (keyLit _) _, atKey_put_same ht.isMap (keyLit _) _ _⟩
  no s hs := by
    simp at hs
    rw [has_put_other (fun e => hs.2 (str_inj e))]
    exact h.no s hs.1
  size := by
    rw [size_put ht, h.no key hk, h.size]
    simp
theorem law : Keyed Yba.prog 9 := string_keyed Yba.underlying9
theorem zero3 (w : World) : (zeroValue 3).run Yba.prog w = .ok (.int .i64 0) w := by kernel_rfl
/-- Block M is a map that reads as an index over 'ks'. -/
def MapIx (w : World) (M : Nat) (ks : List ByteArray) : Prop := ∃ D : DataW Unit, w.ownsMap Yba.prog 9 (plainElem Yba.prog 3) M ks.length D ∧ IxD D ks
theorem ownsMap_turn {A : Nat → Prop} {w w' : World} {M n : Nat} {D : DataW Unit} (h : w.ownsMap Yba.prog 9 (plainElem Yba.prog 3) M n D) (t : Turn A w w') (ha : ¬ A M) : w'.ownsMap Yba.prog 9 (plainElem Yba.prog 3) M n D := by
  have hl := h.lt
  obtain ⟨es, clock, hb, r⟩ := h
  exact ⟨es, clock, (t.block M hl ha).trans hb, r⟩
theorem MapIx.turn {A : Nat → Prop} {w w' : World} {M : Nat} {ks : List ByteArray} (h : MapIx w M ks) (t : Turn A w w') (ha : ¬ A M) : MapIx w' M ks := by
  obtain ⟨D, h1, h2⟩ := h
  exact ⟨D, ownsMap_turn h1 t ha, h2⟩
theorem MapIx.lt {w : World} {M : Nat} {ks : List ByteArray} (h : MapIx w M ks) : M < w.heap.size := by
  obtain ⟨D, h1, _⟩ := h
  exact h1.lt
def kf (ks : List ByteArray) : Nat → Value := fun j => .string (ks.getD j ByteArray.empty)
def zf (zs : List Int) : Nat → Value := fun j => .int .i64 (zs.getD j 0)
def obF (a b c : Value) : Nat → Value := fun j => if j = 0 then a else if j = 1 then b else c
theorem kf_one (ks : List ByteArray) (j : Nat) : (kf ks j).oneCell' = true := rfl
theorem zf_one (zs : List Int) (j : Nat) : (zf zs j).oneCell' = true := rfl
theorem kf_snoc (ks : List ByteArray) (key : ByteArray) (n : Nat) (hn : ks.length = n) : ∀ j, j < n + 1 → (if j < n then kf ks j else .string key) = kf (ks ++ [key]) j := by
  intro j hj
  subst hn
  unfold kf
  by_cases h : j < ks.length
  · rw [if_pos h, List.getD_eq_getElem?_getD, List.getD_eq_getElem?_getD, List.getElem?_append_left h]
  · rw [if_neg h]
    obtain rfl : j = ks.length := by omega
    simp
theorem zf_snoc (zs : List Int) (x : Int) (n : Nat) (hn : zs.length = n) : ∀ j, j < n + 1 → (if j < n then zf zs j else .int .i64 x) = zf (zs ++ [x]) j := by
  intro j hj
  subst hn
  unfold zf
  by_cases h : j < zs.length
  · rw [if_pos h, List.getD_eq_getElem?_getD, List.getD_eq_getElem?_getD, List.getElem?_append_left h]
  · rw [if_neg h]
    obtain rfl : j = zs.length := by omega
    simp

/-- THE OBJECT, its index made. -/
structure Obj1 (w : World) (O gk ck gv cv M : Nat) (ks : List ByteArray) (zs : List Int) : Prop where
  st : w.rowIs O 46 3 (obF (.slice (some ⟨gk, 0, none⟩) ks.length ck) (.slice (some ⟨gv, 0, none⟩) ks.length cv) (.map (some M)))
  k : SlI w 9 gk ks.length ck (kf ks)
  v : SlI w 3 gv ks.length cv (zf zs)
  m : MapIx w M ks
  len : zs.length = ks.length
theorem Obj1.ne {w : World} {O gk ck gv cv M : Nat} {ks : List ByteArray} {zs : List Int} (h : Obj1 w O gk ck gv cv M ks zs) : gk ≠ O ∧ gv ≠ O ∧ M ≠ O ∧ gk ≠ gv ∧ gk ≠ M ∧ gv ≠ M := by
  obtain ⟨c, hO, _⟩ := h.st
  obtain ⟨_, _, ck', hk, _⟩ := h.k
  obtain ⟨_, _, cv', hv, _⟩ := h.v
  obtain ⟨D, ⟨es, clock, hm, _⟩, _⟩ := h.m
  refine ⟨?_, ?_, ?_, ?_, ?_, ?_⟩ <;> (intro e; subst e; simp_all)

theorem new_one (w : World) (u : Value) (E : TypeId) : ∀ j, j < 1 → (w.alloc (.cells #[u] E)).cell? ⟨w.heap.size, 0 + j, none⟩ = some u := by
  intro j hj
  obtain rfl : j = 0 := by omega
  rw [cell_of_row _ _ _ _ _ _ (heap_alloc_new w _)]
  rfl
theorem ob_put0 {w : World} {O : Nat} {a b c : Value} (h : w.rowIs O 46 3 (obF a b c)) (x : Value) : (w.setCell ⟨O, 0, none⟩ x).rowIs O 46 3 (obF x b c) :=
  row_put h 0 _ _ (fun j hj => by rcases (show j = 0 ∨ j = 1 ∨ j = 2 by omega) with rfl | rfl | rfl <;> rfl)
theorem ob_put1 {w : World} {O : Nat} {a b c : Value} (h : w.rowIs O 46 3 (obF a b c)) (x : Value) : (w.setCell ⟨O, 1, none⟩ x).rowIs O 46 3 (obF a x c) :=
  row_put h 1 _ _ (fun j hj => by rcases (show j = 0 ∨ j = 1 ∨ j = 2 by omega) with rfl | rfl | rfl <;> rfl)
theorem ob_put2 {w : World} {O : Nat} {a b c : Value} (h : w.rowIs O 46 3 (obF a b c)) (x : Value) : (w.setCell ⟨O, 2, none⟩ x).rowIs O 46 3 (obF a b x) :=
  row_put h 2 _ _ (fun j hj => by rcases (show j = 0 ∨ j = 1 ∨ j = 2 by omega) with rfl | rfl | rfl <;> rfl)
theorem MapIx.look {w : World} {M i : Nat} {ks : List ByteArray} {key : ByteArray} (h : MapIx w M ks) (hi : ks[i]? = some key) (hs : key.size ≤ maxLen) :
    (Instr.lookup 41 (.map (some M)) (.string key) true).run Yba.prog w = .ok (.tuple #[.int .i64 i, .bool true]) w := by
  obtain ⟨D, hown, hD⟩ := h
  obtain ⟨hh, hat⟩ := hD.at_ i key hi
  obtain ⟨v, ps, hr, hv⟩ := hown.look_ok law Yba.underlying41 (zero3 w) (plainElem_int Yba.underlying3 (by decide)) (keyOf_string_mk Yba.underlying9 hs)
  obtain ⟨c, rfl, hc, _⟩ := plainElem_int_inv Yba.underlying3 hv
  have e1 : D.atKey (str key) (i64 0) = .lit (.int .i64 c) := congrArg Prod.fst hc
  rw [hat] at e1
  have e2 : c = (i : Int) := by simpa [i64] using e1.symm
  rw [hr, e2]
  exact congrArg (fun b => Result.ok (Value.tuple #[.int .i64 (i : Int), .bool b]) w) hh
theorem MapIx.look_no {w : World} {M : Nat} {ks : List ByteArray} {key : ByteArray} (h : MapIx w M ks) (hi : key ∉ ks) (hs : key.size ≤ maxLen) :
    (Instr.lookup 41 (.map (some M)) (.string key) true).run Yba.prog w = .ok (.tuple #[.int .i64 0, .bool false]) w := by
  obtain ⟨D, hown, hD⟩ := h
  have hh := hD.no key hi
  obtain ⟨v, ps, hr, hv⟩ := hown.look_ok law Yba.underlying41 (zero3 w) (plainElem_int Yba.underlying3 (by decide)) (keyOf_string_mk Yba.underlying9 hs)
  obtain ⟨c, rfl, hc, _⟩ := plainElem_int_inv Yba.underlying3 hv
  have e1 : D.atKey (str key) (i64 0) = .lit (.int .i64 c) := congrArg Prod.fst hc
  rw [atKey_of_not_has hh] at e1
  have e2 : c = 0 := by simpa [i64] using e1.symm
  rw [hr, e2]
  exact congrArg (fun b => Result.ok (Value.tuple #[.int .i64 (0 : Int), .bool b]) w) hh
theorem MapIx.len {w : World} {M : Nat} {ks : List ByteArray} (h : MapIx w M ks) (ty : TypeId) : (Builtin.len_ #[41] ty #[.map (some M)]).run Yba.prog w = .ok (.int .i64 ks.length) w := by
  obtain ⟨D, hown, hD⟩ := h
  rw [hown.len Yba.underlying41 ty, hD.size]

set_option maxHeartbeats 400000 in
/-- at(key), the key there: the place of its value. -/
theorem at_found (O gk ck gv cv M i : Nat) (ks : List ByteArray) (zs : List Int) (key : ByteArray) (w : World) (h : Obj1 w O gk ck gv cv M ks zs) (hi : ks[i]? = some key) (hs : key.size ≤ maxLen) :
    Calls Yba.prog 9 #[.pointer (some ⟨O, 0, none⟩), .string key] w fun e w' => e = .returned (.pointer (some ⟨gv, i, none⟩)) ∧ w' = w := by
  have hlt : i < ks.length := (List.getElem?_eq_some_iff.1 hi).1
  have o1 : w.cell? ⟨O, 1, none⟩ = some (.slice (some ⟨gv, 0, none⟩) ks.length cv) := h.st.cell (by omega)
  have o2 : w.cell? ⟨O, 2, none⟩ = some (.map (some M)) := h.st.cell (by omega)
  have hlook := h.m.look hi hs
  clear h hi
  generalize ks.length = n at hlt o1
  go_enter Yba.func9, Yba.ntmps9
  go_wp2
  go_ret
  exact ⟨rfl, rfl⟩

/-- at(key), the key not there, its index made: laid behind the others. -/
structure Put (w w' : World) (O gk gv M : Nat) (ks : List ByteArray) (zs : List Int) (key : ByteArray) (gk' ck' gv' cv' : Nat) : Prop where
  ob : Obj1 w' O gk' ck' gv' cv' M (ks ++ [key]) (zs ++ [0])
  turn : Turn (fun k => k = O ∨ k = gk ∨ k = gv ∨ k = M) w w'
  lk : gk' = gk ∨ w.heap.size ≤ gk'
  lv : gv' = gv ∨ w.heap.size ≤ gv'
set_option maxRecDepth 100000 in
set_option maxHeartbeats 1000000 in
theorem at_new (O gk ck gv cv M : Nat) (ks : List ByteArray) (zs : List Int) (key : ByteArray) (w : World) (h : Obj1 w O gk ck gv cv M ks zs) (hi : key ∉ ks) (hs : key.size ≤ maxLen) (hn : ks.length ≤ 100000) :
    Calls Yba.prog 9 #[.pointer (some ⟨O, 0, none⟩), .string key] w fun e w' => ∃ gk' ck' gv' cv', e = .returned (.pointer (some ⟨gv', ks.length, none⟩)) ∧ Put w w' O gk gv M ks zs key gk' ck' gv' cv' := by
  obtain ⟨i0, i1, i2, i3, i4⟩ := info_parts infoS
  obtain ⟨j0, j1, j2, j3, j4⟩ := info_parts infoI
  have q41 : ∀ (w : World) (r : Option Nat), (binOp .eql 41 (.map r) (.map none)).run Yba.prog w = .ok (.bool r.isNone) w := fun w r => run_eql_map_nil w _ _ _ r Yba.underlying41
  have y2 : w.cell? ⟨O, 2, none⟩ = some (.map (some M)) := h.st.cell (by omega)
  have hlook := h.m.look_no hi hs
  go_enter Yba.func9, Yba.ntmps9
  go_upto_region 5 with fail
  clear hlook y2
  obtain ⟨ne1, ne2, ne3, ne4, ne5, ne6⟩ := h.ne
  have o0 : w.cell? ⟨O, 0, none⟩ = some (.slice (some ⟨gk, 0, none⟩) ks.length ck) := h.st.cell (by omega)
  have o1 : w.cell? ⟨O, 1, none⟩ = some (.slice (some ⟨gv, 0, none⟩) ks.length cv) := h.st.cell (by omega)
  have o2 : w.cell? ⟨O, 2, none⟩ = some (.map (some M)) := h.st.cell (by omega)
  obtain ⟨D, hown, hD⟩ := h.m
  have HD : Hid (IxD D ks) := hD
  have HT : Hid (Tidy D) := hown.tidy law
  have HO : Hid (w.ownsMap Yba.prog 9 (plainElem Yba.prog 3) M ks.length D) := hown
  have HH : Hid (Obj1 w O gk ck gv cv M ks zs) := h
  have HI : Hid (key ∉ ks) := hi
  have hkey : Hid (keyOf Yba.prog 9 (.string key) = some (str key)) := keyOf_string_mk Yba.underlying9 hs
  have hnm : ks.length < maxLen := by unfold maxLen; omega
  have hw3 : (Lit.int .i64 (ks.length : Int)).wf = true := WalkArith.wf_i64 (by omega)
  have hpe : Hid (plainElem (H := Unit) Yba.prog 3 (.int .i64 (ks.length : Int)) = some (i64 ks.length, [])) := plainElem_int Yba.underlying3 hw3
  clear hown hD h hi hw3
  have b1 : ks.length + 1 ≤ maxLen := by omega
  go_upto_region 8 with (first | (at_mapUpdate; refine wpList_mapUpdate_own _ rfl _ _ _ 41 rfl 9 3 law Yba.underlying41 _ M ks.length D rfl HO.out hnm _ _ _ rfl rfl hkey.out _ [] hpe.out ?_; intro w1 hown1 hgrow1; have T1 : Turn (fun k => k = M) w w1 := ((Turn.refl (fun k => k = M) w).grown hgrow1 (fun k hk => .inr (Option.some.inj hk).symm)); have p0 := T1.cell o0 (fun e => ne3 e.symm); have p1 := T1.cell o1 (fun e => ne3 e.symm)) | (at_builtin; refine wpList_append_sl _ rfl (.tmp 43) (.tmp 45) 22 rfl 9 i0 (.string ⟨#[]⟩) 16 Yba.underlying22 i1 i2 i3 i4 rfl gk ks.length ck (kf ks) rfl ((HH.out.k.turn T1 ne5).turn ((Turn.refl (fun _ => False) w1).alloc _) (fun x => x)) w1.heap.size 0 1 1 (fun _ => .string key) rfl (new_one _ _ _) (fun _ _ => rfl) b1 (by omega) (w1.heap.size + 1) (by simp) ?_; intro gk' ck' w2 s2 t2 l2; have U2 : Turn (fun k => k = M ∨ k = gk) w w2 := ((T1.mono (B := fun k => k = M ∨ k = gk) (fun _ _ e => .inl e)).alloc _).trans t2 (fun _ _ e => .inr e); have f2 : w2.frozen? ⟨O, 0, none⟩ = false := (U2.frozen HH.out.st.lt (fun e => by rcases e with e | e; exact ne3 e.symm; exact ne1 e.symm)).trans (HH.out.st.frozen _); have p2 := U2.cell o0 (fun e => by rcases e with e | e; exact ne3 e.symm; exact ne1 e.symm)))
  have mO : ∀ k, (k = M ∨ k = gk) → k ≠ O := fun k e => by rcases e with e | e <;> (rw [e]; assumption)
  have S3 : SlI (w2.setCell ⟨O, 0, none⟩ (.slice (some ⟨gk', 0, none⟩) (ks.length + 1) ck')) 9 gk' (ks.length + 1) ck' (kf (ks ++ [key])) :=
    (s2.turn ((Turn.refl (fun k => k = O) w2).setCell (p := ⟨O, 0, none⟩) (.inr rfl) _) (fun e => by have := HH.out.st.lt; have := T1.size; rcases l2 with h | h <;> omega)).congr (kf_snoc ks key _ rfl)
  have R3 : (w2.setCell ⟨O, 0, none⟩ (.slice (some ⟨gk', 0, none⟩) (ks.length + 1) ck')).rowIs O 46 3 (obF (.slice (some ⟨gk', 0, none⟩) (ks.length + 1) ck') (.slice (some ⟨gv, 0, none⟩) ks.length cv) (.map (some M))) :=
    ob_put0 (U2.row HH.out.st (fun e => mO _ e rfl)) _
  have T3 : Turn (fun k => k = O ∨ k = gk ∨ k = M) w (w2.setCell ⟨O, 0, none⟩ (.slice (some ⟨gk', 0, none⟩) (ks.length + 1) ck')) :=
    (U2.mono (B := fun k => k = O ∨ k = gk ∨ k = M) (fun _ _ e => by rcases e with e | e; exact .inr (.inr e); exact .inr (.inl e))).setCell (p := ⟨O, 0, none⟩) (.inr (.inl rfl)) _
  have M3 : (w2.setCell ⟨O, 0, none⟩ (.slice (some ⟨gk', 0, none⟩) (ks.length + 1) ck')).ownsMap Yba.prog 9 (plainElem Yba.prog 3) M (ks.length + 1) (D.put (str key) (i64 ks.length)) :=
    ownsMap_turn (ownsMap_turn (ownsMap_turn hown1 ((Turn.refl (fun _ => False) w1).alloc _) (fun x => x)) t2 (fun e => ne5 e.symm)) ((Turn.refl (fun k => k = O) w2).setCell (p := ⟨O, 0, none⟩) (.inr rfl) _) ne3
  have L2 : gk' = gk ∨ w.heap.size ≤ gk' := by have := T1.size; rcases l2 with h | h <;> omega
  generalize w2.setCell ⟨O, 0, none⟩ (.slice (some ⟨gk', 0, none⟩) (ks.length + 1) ck') = w3 at S3 R3 T3 M3 ⊢
  clear p0 p1 p2 f2 U2 t2 s2 l2 T1 hown1 hgrow1 o0 o1 o2 hkey hpe HO mO
  have V3 : SlI w3 3 gv ks.length cv (zf zs) := HH.out.v.turn T3 (fun e => by rcases e with e | e | e; exact ne2 e; exact ne4 e.symm; exact ne6 e)
  have x1 : w3.cell? ⟨O, 1, none⟩ = some (.slice (some ⟨gv, 0, none⟩) ks.length cv) := R3.cell (by omega)
  have H3 : Hid (SlI (w3.alloc (.cells #[.int .i64 0] 3)) 3 gv ks.length cv (zf zs)) := V3.turn ((Turn.refl (fun _ => False) w3).alloc _) (fun x => x)
  go_wp2_with (at_builtin; refine wpList_append_sl _ rfl (.tmp 53) (.tmp 55) 40 rfl 3 j0 (.int .i64 0) 8 Yba.underlying40 j1 j2 j3 j4 rfl gv ks.length cv (zf zs) rfl H3.out w3.heap.size 0 1 1 (fun _ => .int .i64 0) rfl (new_one _ _ _) (fun _ _ => rfl) b1 (by omega) (w3.heap.size + 1) (by simp) ?_; intro gv' cv' w4 s4 t4 l4; have U4 : Turn (fun k => k = gv) w3 w4 := ((Turn.refl (fun k => k = gv) w3).alloc _).trans t4 (fun _ _ e => e); have f4 : w4.frozen? ⟨O, 1, none⟩ = false := (U4.frozen R3.lt (fun e => ne2 e.symm)).trans (R3.frozen _); have p4 := U4.cell x1 (fun e => ne2 e.symm))
  have R5 : (w4.setCell ⟨O, 1, none⟩ (.slice (some ⟨gv', 0, none⟩) (ks.length + 1) cv')).rowIs O 46 3 (obF (.slice (some ⟨gk', 0, none⟩) (ks.length + 1) ck') (.slice (some ⟨gv', 0, none⟩) (ks.length + 1) cv') (.map (some M))) :=
    ob_put1 (U4.row R3 (fun e => ne2 e.symm)) _
  have U5 : Turn (fun k => k = gv ∨ k = O) w3 (w4.setCell ⟨O, 1, none⟩ (.slice (some ⟨gv', 0, none⟩) (ks.length + 1) cv')) := (U4.mono (B := fun k => k = gv ∨ k = O) (fun _ _ e => .inl e)).setCell (p := ⟨O, 1, none⟩) (.inr (.inr rfl)) _
  have gO : gk' ≠ O := by have := HH.out.st.lt; rcases L2 with h | h <;> omega
  have gg : gk' ≠ gv := by have := HH.out.v.lt; rcases L2 with h | h <;> omega
  have lO := R3.lt
  have S5 : SlI (w4.setCell ⟨O, 1, none⟩ (.slice (some ⟨gv', 0, none⟩) (ks.length + 1) cv')) 9 gk' (ks.length + 1) ck' (kf (ks ++ [key])) := S3.turn U5 (fun e => by rcases e with e | e; exact gg e; exact gO e)
  have V5 : SlI (w4.setCell ⟨O, 1, none⟩ (.slice (some ⟨gv', 0, none⟩) (ks.length + 1) cv')) 3 gv' (ks.length + 1) cv' (zf (zs ++ [0])) :=
    (s4.turn ((Turn.refl (fun k => k = O) w4).setCell (p := ⟨O, 1, none⟩) (.inr rfl) _) (fun e => by rcases l4 with h | h <;> omega)).congr (zf_snoc zs 0 _ HH.out.len)
  have M5 : MapIx (w4.setCell ⟨O, 1, none⟩ (.slice (some ⟨gv', 0, none⟩) (ks.length + 1) cv')) M (ks ++ [key]) :=
    ⟨_, by rw [List.length_append]; exact ownsMap_turn M3 U5 (fun e => by rcases e with e | e; exact ne6 e.symm; exact ne3 e), ixD_put HD.out HT.out HI.out⟩
  have fin : Put w (w4.setCell ⟨O, 1, none⟩ (.slice (some ⟨gv', 0, none⟩) (ks.length + 1) cv')) O gk gv M ks zs key gk' ck' gv' cv' := by
    refine ⟨⟨?_, ?_, ?_, M5, ?_⟩, ?_, L2, ?_⟩
    · rw [List.length_append]; exact R5
    · rw [List.length_append]; exact S5
    · rw [List.length_append]; exact V5
    · rw [List.length_append, List.length_append, HH.out.len]; rfl
    · exact (T3.mono (B := fun k => k = O ∨ k = gk ∨ k = gv ∨ k = M) (fun _ _ e => by rcases e with e | e | e; exact .inl e; exact .inr (.inl e); exact .inr (.inr (.inr e)))).trans U5 (fun _ _ e => by rcases e with e | e; exact .inr (.inr (.inl e)); exact .inl e)
    · have := T3.size; rcases l4 with h | h <;> omega
  go_ret
  exact ⟨gk', ck', gv', cv', rfl, fin⟩

/-- An object with no key and no index. -/
structure Obj0 (w : World) (O gk ck gv cv : Nat) : Prop where
  st : w.rowIs O 46 3 (obF (.slice (some ⟨gk, 0, none⟩) 0 ck) (.slice (some ⟨gv, 0, none⟩) 0 cv) (.map none))
  k : SlI w 9 gk 0 ck (kf [])
  v : SlI w 3 gv 0 cv (zf [])
theorem obj1_of {w : World} {O gk ck gv cv : Nat} (h : Obj0 w O gk ck gv cv) : Obj1 ((w.setCell ⟨O, 2, none⟩ (.map (some w.heap.size))).alloc (.map #[] 0)) O gk ck gv cv w.heap.size [] [] := by
  have hk := h.k
  have hv := h.v
  have hO := h.st
  have nk : gk ≠ O := by
    obtain ⟨c, e1, _⟩ := hO
    obtain ⟨_, _, c2, e2, _⟩ := hk
    intro e; subst e; simp_all
  have nv : gv ≠ O := by
    obtain ⟨c, e1, _⟩ := hO
    obtain ⟨_, _, c2, e2, _⟩ := hv
    intro e; subst e; simp_all
  have t1 : Turn (fun k => k = O) w ((w.setCell ⟨O, 2, none⟩ (.map (some w.heap.size))).alloc (.map #[] 0)) := ((Turn.refl (fun k => k = O) w).setCell (p := ⟨O, 2, none⟩) (.inr rfl) _).alloc _
  refine ⟨(ob_put2 hO _).alloc _, hk.turn t1 nk, hv.turn t1 nv, ⟨.map [], ?_, ixD_nil⟩, rfl⟩
  have := World.ownsMap_made (H := Unit) (w.setCell ⟨O, 2, none⟩ (.map (some w.heap.size))) Yba.prog 9 (plainElem Yba.prog 3)
  simpa [World.setCell] using this

set_option maxRecDepth 100000 in
set_option maxHeartbeats 1000000 in
theorem at_nil (O gk ck gv cv : Nat) (key : ByteArray) (w0 : World) (h0 : Obj0 w0 O gk ck gv cv) (hs : key.size ≤ maxLen) :
    Calls Yba.prog 9 #[.pointer (some ⟨O, 0, none⟩), .string key] w0 fun e w' => ∃ gk' ck' gv' cv' M, e = .returned (.pointer (some ⟨gv', 0, none⟩)) ∧ Obj1 w' O gk' ck' gv' cv' M [key] [0] ∧ Turn (fun k => k = O ∨ k = gk ∨ k = gv) w0 w' ∧ (gk' = gk ∨ w0.heap.size ≤ gk') ∧ (gv' = gv ∨ w0.heap.size ≤ gv') := by
  obtain ⟨i0, i1, i2, i3, i4⟩ := info_parts infoS
  obtain ⟨j0, j1, j2, j3, j4⟩ := info_parts infoI
  have q41 : ∀ (w : World) (r : Option Nat), (binOp .eql 41 (.map r) (.map none)).run Yba.prog w = .ok (.bool r.isNone) w := fun w r => run_eql_map_nil w _ _ _ r Yba.underlying41
  have y2 : w0.cell? ⟨O, 2, none⟩ = some (.map none) := h0.st.cell (by omega)
  have yf : w0.frozen? ⟨O, 2, none⟩ = false := h0.st.frozen _
  have lO := h0.st.lt
  have hlook : (Instr.lookup 41 (.map none) (.string key) true).run Yba.prog w0 = .ok (.tuple #[.int .i64 0, .bool false]) w0 := Maps.look_nil true law Yba.underlying41 (zero3 w0) (keyOf_string_mk Yba.underlying9 hs)
  have hmm := @run_makeMap Yba.prog
  go_enter Yba.func9, Yba.ntmps9
  go_upto_region 5 with fail
  have h : Obj1 ((w0.setCell ⟨O, 2, none⟩ (.map (some w0.heap.size))).alloc (.map #[] 0)) O gk ck gv cv w0.heap.size [] [] := obj1_of h0
  have T0 : Turn (fun k => k = O) w0 ((w0.setCell ⟨O, 2, none⟩ (.map (some w0.heap.size))).alloc (.map #[] 0)) := ((Turn.refl (fun k => k = O) w0).setCell (p := ⟨O, 2, none⟩) (.inr rfl) _).alloc _
  clear hlook y2 yf lO
  have hM : w0.heap.size ≤ w0.heap.size := Nat.le_refl _
  generalize (w0.setCell ⟨O, 2, none⟩ (.map (some w0.heap.size))).alloc (.map #[] 0) = w at h T0 ⊢
  clear h0 hmm
  have hi : key ∉ ([] : List ByteArray) := by simp
  have hn : ([] : List ByteArray).length ≤ 100000 := by simp
  have hk0 : ([] : List ByteArray).length = 0 := rfl
  generalize ([] : List ByteArray) = ks at h hi hn hk0
  generalize ([] : List Int) = zs at h
  generalize hMe : w0.heap.size = M at h hM ⊢
  have Hk0 : Hid (ks.length = 0) := hk0
  have HMe : Hid (w0.heap.size = M) := hMe
  clear hk0 hMe hM
  obtain ⟨ne1, ne2, ne3, ne4, ne5, ne6⟩ := h.ne
  have o0 : w.cell? ⟨O, 0, none⟩ = some (.slice (some ⟨gk, 0, none⟩) ks.length ck) := h.st.cell (by omega)
  have o1 : w.cell? ⟨O, 1, none⟩ = some (.slice (some ⟨gv, 0, none⟩) ks.length cv) := h.st.cell (by omega)
  have o2 : w.cell? ⟨O, 2, none⟩ = some (.map (some M)) := h.st.cell (by omega)
  obtain ⟨D, hown, hD⟩ := h.m
  have HD : Hid (IxD D ks) := hD
  have HT : Hid (Tidy D) := hown.tidy law
  have HO : Hid (w.ownsMap Yba.prog 9 (plainElem Yba.prog 3) M ks.length D) := hown
  have HH : Hid (Obj1 w O gk ck gv cv M ks zs) := h
  have HI : Hid (key ∉ ks) := hi
  have hkey : Hid (keyOf Yba.prog 9 (.string key) = some (str key)) := keyOf_string_mk Yba.underlying9 hs
  have hnm : ks.length < maxLen := by unfold maxLen; omega
  have hw3 : (Lit.int .i64 (ks.length : Int)).wf = true := WalkArith.wf_i64 (by omega)
  have hpe : Hid (plainElem (H := Unit) Yba.prog 3 (.int .i64 (ks.length : Int)) = some (i64 ks.length, [])) := plainElem_int Yba.underlying3 hw3
  clear hown hD h hi hw3
  have b1 : ks.length + 1 ≤ maxLen := by omega
  go_upto_region 8 with (first | (at_mapUpdate; refine wpList_mapUpdate_own _ rfl _ _ _ 41 rfl 9 3 law Yba.underlying41 _ M ks.length D rfl HO.out hnm _ _ _ rfl rfl hkey.out _ [] hpe.out ?_; intro w1 hown1 hgrow1; have T1 : Turn (fun k => k = M) w w1 := ((Turn.refl (fun k => k = M) w).grown hgrow1 (fun k hk => .inr (Option.some.inj hk).symm)); have p0 := T1.cell o0 (fun e => ne3 e.symm); have p1 := T1.cell o1 (fun e => ne3 e.symm)) | (at_builtin; refine wpList_append_sl _ rfl (.tmp 43) (.tmp 45) 22 rfl 9 i0 (.string ⟨#[]⟩) 16 Yba.underlying22 i1 i2 i3 i4 rfl gk ks.length ck (kf ks) rfl ((HH.out.k.turn T1 ne5).turn ((Turn.refl (fun _ => False) w1).alloc _) (fun x => x)) w1.heap.size 0 1 1 (fun _ => .string key) rfl (new_one _ _ _) (fun _ _ => rfl) b1 (by omega) (w1.heap.size + 1) (by simp) ?_; intro gk' ck' w2 s2 t2 l2; have U2 : Turn (fun k => k = M ∨ k = gk) w w2 := ((T1.mono (B := fun k => k = M ∨ k = gk) (fun _ _ e => .inl e)).alloc _).trans t2 (fun _ _ e => .inr e); have f2 : w2.frozen? ⟨O, 0, none⟩ = false := (U2.frozen HH.out.st.lt (fun e => by rcases e with e | e; exact ne3 e.symm; exact ne1 e.symm)).trans (HH.out.st.frozen _); have p2 := U2.cell o0 (fun e => by rcases e with e | e; exact ne3 e.symm; exact ne1 e.symm)))
  have mO : ∀ k, (k = M ∨ k = gk) → k ≠ O := fun k e => by rcases e with e | e <;> (rw [e]; assumption)
  have S3 : SlI (w2.setCell ⟨O, 0, none⟩ (.slice (some ⟨gk', 0, none⟩) (ks.length + 1) ck')) 9 gk' (ks.length + 1) ck' (kf (ks ++ [key])) :=
    (s2.turn ((Turn.refl (fun k => k = O) w2).setCell (p := ⟨O, 0, none⟩) (.inr rfl) _) (fun e => by have := HH.out.st.lt; have := T1.size; rcases l2 with h | h <;> omega)).congr (kf_snoc ks key _ rfl)
  have R3 : (w2.setCell ⟨O, 0, none⟩ (.slice (some ⟨gk', 0, none⟩) (ks.length + 1) ck')).rowIs O 46 3 (obF (.slice (some ⟨gk', 0, none⟩) (ks.length + 1) ck') (.slice (some ⟨gv, 0, none⟩) ks.length cv) (.map (some M))) :=
    ob_put0 (U2.row HH.out.st (fun e => mO _ e rfl)) _
  have T3 : Turn (fun k => k = O ∨ k = gk ∨ k = M) w (w2.setCell ⟨O, 0, none⟩ (.slice (some ⟨gk', 0, none⟩) (ks.length + 1) ck')) :=
    (U2.mono (B := fun k => k = O ∨ k = gk ∨ k = M) (fun _ _ e => by rcases e with e | e; exact .inr (.inr e); exact .inr (.inl e))).setCell (p := ⟨O, 0, none⟩) (.inr (.inl rfl)) _
  have M3 : (w2.setCell ⟨O, 0, none⟩ (.slice (some ⟨gk', 0, none⟩) (ks.length + 1) ck')).ownsMap Yba.prog 9 (plainElem Yba.prog 3) M (ks.length + 1) (D.put (str key) (i64 ks.length)) :=
    ownsMap_turn (ownsMap_turn (ownsMap_turn hown1 ((Turn.refl (fun _ => False) w1).alloc _) (fun x => x)) t2 (fun e => ne5 e.symm)) ((Turn.refl (fun k => k = O) w2).setCell (p := ⟨O, 0, none⟩) (.inr rfl) _) ne3
  have L2 : gk' = gk ∨ w.heap.size ≤ gk' := by have := T1.size; rcases l2 with h | h <;> omega
  generalize w2.setCell ⟨O, 0, none⟩ (.slice (some ⟨gk', 0, none⟩) (ks.length + 1) ck') = w3 at S3 R3 T3 M3 ⊢
  clear p0 p1 p2 f2 U2 t2 s2 l2 T1 hown1 hgrow1 o0 o1 o2 hkey hpe HO mO
  have V3 : SlI w3 3 gv ks.length cv (zf zs) := HH.out.v.turn T3 (fun e => by rcases e with e | e | e; exact ne2 e; exact ne4 e.symm; exact ne6 e)
  have x1 : w3.cell? ⟨O, 1, none⟩ = some (.slice (some ⟨gv, 0, none⟩) ks.length cv) := R3.cell (by omega)
  have H3 : Hid (SlI (w3.alloc (.cells #[.int .i64 0] 3)) 3 gv ks.length cv (zf zs)) := V3.turn ((Turn.refl (fun _ => False) w3).alloc _) (fun x => x)
  go_wp2_with (at_builtin; refine wpList_append_sl _ rfl (.tmp 53) (.tmp 55) 40 rfl 3 j0 (.int .i64 0) 8 Yba.underlying40 j1 j2 j3 j4 rfl gv ks.length cv (zf zs) rfl H3.out w3.heap.size 0 1 1 (fun _ => .int .i64 0) rfl (new_one _ _ _) (fun _ _ => rfl) b1 (by omega) (w3.heap.size + 1) (by simp) ?_; intro gv' cv' w4 s4 t4 l4; have U4 : Turn (fun k => k = gv) w3 w4 := ((Turn.refl (fun k => k = gv) w3).alloc _).trans t4 (fun _ _ e => e); have f4 : w4.frozen? ⟨O, 1, none⟩ = false := (U4.frozen R3.lt (fun e => ne2 e.symm)).trans (R3.frozen _); have p4 := U4.cell x1 (fun e => ne2 e.symm))
  have R5 : (w4.setCell ⟨O, 1, none⟩ (.slice (some ⟨gv', 0, none⟩) (ks.length + 1) cv')).rowIs O 46 3 (obF (.slice (some ⟨gk', 0, none⟩) (ks.length + 1) ck') (.slice (some ⟨gv', 0, none⟩) (ks.length + 1) cv') (.map (some M))) :=
    ob_put1 (U4.row R3 (fun e => ne2 e.symm)) _
  have U5 : Turn (fun k => k = gv ∨ k = O) w3 (w4.setCell ⟨O, 1, none⟩ (.slice (some ⟨gv', 0, none⟩) (ks.length + 1) cv')) := (U4.mono (B := fun k => k = gv ∨ k = O) (fun _ _ e => .inl e)).setCell (p := ⟨O, 1, none⟩) (.inr (.inr rfl)) _
  have gO : gk' ≠ O := by have := HH.out.st.lt; rcases L2 with h | h <;> omega
  have gg : gk' ≠ gv := by have := HH.out.v.lt; rcases L2 with h | h <;> omega
  have lO := R3.lt
  have S5 : SlI (w4.setCell ⟨O, 1, none⟩ (.slice (some ⟨gv', 0, none⟩) (ks.length + 1) cv')) 9 gk' (ks.length + 1) ck' (kf (ks ++ [key])) := S3.turn U5 (fun e => by rcases e with e | e; exact gg e; exact gO e)
  have V5 : SlI (w4.setCell ⟨O, 1, none⟩ (.slice (some ⟨gv', 0, none⟩) (ks.length + 1) cv')) 3 gv' (ks.length + 1) cv' (zf (zs ++ [0])) :=
    (s4.turn ((Turn.refl (fun k => k = O) w4).setCell (p := ⟨O, 1, none⟩) (.inr rfl) _) (fun e => by rcases l4 with h | h <;> omega)).congr (zf_snoc zs 0 _ HH.out.len)
  have M5 : MapIx (w4.setCell ⟨O, 1, none⟩ (.slice (some ⟨gv', 0, none⟩) (ks.length + 1) cv')) M (ks ++ [key]) :=
    ⟨_, by rw [List.length_append]; exact ownsMap_turn M3 U5 (fun e => by rcases e with e | e; exact ne6 e.symm; exact ne3 e), ixD_put HD.out HT.out HI.out⟩
  have fin : Put w (w4.setCell ⟨O, 1, none⟩ (.slice (some ⟨gv', 0, none⟩) (ks.length + 1) cv')) O gk gv M ks zs key gk' ck' gv' cv' := by
    refine ⟨⟨?_, ?_, ?_, M5, ?_⟩, ?_, L2, ?_⟩
    · rw [List.length_append]; exact R5
    · rw [List.length_append]; exact S5
    · rw [List.length_append]; exact V5
    · rw [List.length_append, List.length_append, HH.out.len]; rfl
    · exact (T3.mono (B := fun k => k = O ∨ k = gk ∨ k = gv ∨ k = M) (fun _ _ e => by rcases e with e | e | e; exact .inl e; exact .inr (.inl e); exact .inr (.inr (.inr e)))).trans U5 (fun _ _ e => by rcases e with e | e; exact .inr (.inr (.inl e)); exact .inl e)
    · have := T3.size; rcases l4 with h | h <;> omega
  go_ret
  refine ⟨gk', ck', gv', cv', M, ?_, ?_, ?_, ?_, ?_⟩
  · rw [Hk0.out]; rfl
  · have e : ∀ w', Obj1 w' O gk' ck' gv' cv' M (ks ++ [key]) (zs ++ [0]) → Obj1 w' O gk' ck' gv' cv' M [key] [0] := by
      rw [List.eq_nil_of_length_eq_zero Hk0.out, List.eq_nil_of_length_eq_zero (HH.out.len.trans Hk0.out)]
      exact fun _ h => h
    exact e _ fin.ob
  · have t := (T0.mono (B := fun k => k = O ∨ k = gk ∨ k = gv) (fun _ _ e => .inl e)).trans fin.turn (fun k hk e => by rcases e with e | e | e | e; exact .inl e; exact .inr (.inl e); exact .inr (.inr e); have := HMe.out; omega)
    exact t
  · have := T0.size; have := fin.lk; omega
  · have := T0.size; have := fin.lv; omega
end Go.Proofs.Ybulkegoo
