import Derived.Test.YbulkegnmDoorP
namespace Go.Proofs.YbulkegnmDoor
open Go Go.RowKit

theorem row_setCells {b : Nat} {t : TypeId} {n : Nat} (g : Nat → Value) : ∀ (vs : List Value) (o : Nat) (w : World) (f : Nat → Value), w.rowIs b t n f → (∀ j, j < vs.length → vs[j]? = some (g (o + j))) → (∀ j, j < n → j < o ∨ o + vs.length ≤ j → f j = g j) → (w.setCells b o vs).rowIs b t n g
  | [], o, _, f, h, _, hf => h.congr (fun j hj => hf j hj (by simp; omega))
  | v :: r, o, _, f, h, hv, hf => by
    have hv0 : v = g o := by simpa using hv 0 (by simp)
    refine row_setCells g r (o + 1) _ _ (h.set o v) (fun j hj => ?_) (fun j hj hc => ?_)
    · have := hv (j + 1) (by simp; omega)
      rw [show o + (j + 1) = o + 1 + j by omega] at this
      simpa using this
    · show (if j = o then v else f j) = g j
      by_cases e : j = o
      · rw [if_pos e, hv0, e]
      · rw [if_neg e]
        exact hf j hj (by simp at hc ⊢; omega)
theorem turn_setCells {A : Nat → Prop} {w0 : World} {b : Nat} (hb : A b) : ∀ (vs : List Value) (o : Nat) (w : World), Turn A w0 w → Turn A w0 (w.setCells b o vs)
  | [], _, _, h => h
  | v :: r, o, _, h => turn_setCells hb r (o + 1) _ (h.setCell (p := ⟨b, o, none⟩) (.inr hb) v)
/-- 'clear' of a table's slots. -/
theorem run_clear47 (w : World) (S n : Nat) (ty : TypeId) (nd pl : Nat → Int) (st : Nat → Nat) (hn : 0 < n) (h : w.rowIs S 47 (n * 3) (slF nd pl st)) :
    ∃ vs, (Builtin.clear_ #[31] ty #[.slice (some ⟨S, 0, none⟩) n n]).run Ybad.prog w = .ok (.tuple #[]) (w.setCells S 0 vs) ∧ (w.setCells S 0 vs).rowIs S 47 (n * 3) (slF (fun _ => 0) (fun _ => 0) (fun _ => 0)) := by
  obtain ⟨vs, hvs⟩ : ∃ vs, vs = (Builtin.zeroCells (Value.agg #[.int .i64 0, .int .i64 0, .int .u32 0]).cells n).toList := ⟨_, rfl⟩
  have hlen : vs.length = n * 3 := by rw [hvs]; simp [Builtin.zeroCells, Value.cells]
  have hget : ∀ j, j < n * 3 → vs[j]? = some (slF (fun _ => 0) (fun _ => 0) (fun _ => 0) j) := by
    intro j hj
    rw [hvs]
    rcases (show j % 3 = 0 ∨ j % 3 = 1 ∨ j % 3 = 2 by omega) with e | e | e <;> simp [Builtin.zeroCells, Value.cells, hj, slF, e]
  refine ⟨vs, ?_, row_setCells _ vs 0 w _ h (fun j hj => by rw [Nat.zero_add]; exact hget j (by omega)) (fun j hj hc => by omega)⟩
  have hst := run_storeCells_cells (P := Ybad.prog) S 0 vs 0 w (fun j hj => by rw [show 0 + 0 + j = j by omega, h.cell (by omega)]; rfl) (fun j hj => h.frozen _) (by
    intro v hv
    obtain ⟨j, hj, e⟩ := List.mem_iff_getElem.1 hv
    have := hget j (by omega)
    rw [List.getElem?_eq_getElem hj, e] at this
    rw [Option.some.inj this]
    unfold slF
    split
    · rfl
    · split <;> rfl)
  simp only [Nat.add_zero] at hst
  obtain ⟨m, rfl⟩ : ∃ m, n = m + 1 := ⟨n - 1, by omega⟩
  simp [Builtin.clear_, run_underlying Ybad.underlying31, ← hvs, hst]
/-- The stamp of the next search. -/
def nxt (cur : Nat) : Nat := if cur + 1 = 4294967296 then 1 else cur + 1

set_option maxHeartbeats 1000000 in
set_option maxRecDepth 100000 in
theorem reset_any (O : Nat) (a : Option Addr) (n sh cur used : Nat) (nd pl : Nat → Int) (st : Nat → Nat) (v4 v5 v6 v7 v8 : Value) (w : World) (h : Tq w O a n sh cur used nd pl st v4 v5 v6 v7 v8) :
    Calls Ybad.prog 19 #[.pointer (some ⟨O, 0, none⟩)] w fun e w' => ∃ nd' pl' st', e = .returned (.tuple #[]) ∧ Turn (own O a) w w' ∧ Tq w' O a n sh (nxt cur) 0 nd' pl' st' v4 v5 v6 v7 v8 ∧ (∀ i, i < n → st' i ≠ nxt cur) ∧ 1 ≤ nxt cur := by
  have x2 : w.cell? ⟨O, 2, none⟩ = some (.int .u32 cur) := h.o.cell (by omega)
  have x3 : w.cell? ⟨O, 3, none⟩ = some (.int .i64 used) := h.o.cell (by omega)
  have fo : ∀ j, w.frozen? ⟨O, j, none⟩ = false := fun j => h.o.frozen j
  have hc1 := h.c1
  have HH : Hid (Tq w O a n sh cur used nd pl st v4 v5 v6 v7 v8) := h
  clear h
  by_cases hw : cur + 1 = 4294967296
  · have hx : nxt cur = 1 := if_pos hw
    have e1 : IntKind.u32.wrap ((cur : Int) + 1) = 0 := by rw [show (cur : Int) + 1 = 4294967296 by omega]; decide
    rw [hx]
    go_enter Ybad.func19, Ybad.ntmps19
    go_upto_region 3 with fail
    have o1 : ((w.setCell ⟨O, 3, none⟩ (.int .i64 ((0 : Nat) : Int))).setCell ⟨O, 2, none⟩ (.int .u32 ((0 : Nat) : Int))).rowIs O 37 9 (reF (.slice a n n) sh 0 0 v4 v5 v6 v7 v8) := re_stamp (re_used HH.out.o 0) 0
    have t1 : Turn (own O a) w ((w.setCell ⟨O, 3, none⟩ (.int .i64 ((0 : Nat) : Int))).setCell ⟨O, 2, none⟩ (.int .u32 ((0 : Nat) : Int))) := ((Turn.refl (own O a) w).setCell (p := ⟨O, 3, none⟩) (.inr (.inl rfl)) _).setCell (p := ⟨O, 2, none⟩) (.inr (.inl rfl)) _
    have s1 : ∀ S, a = some ⟨S, 0, none⟩ → w.rowIs S 47 (n * 3) (slF nd pl st) → ((w.setCell ⟨O, 3, none⟩ (.int .i64 ((0 : Nat) : Int))).setCell ⟨O, 2, none⟩ (.int .u32 ((0 : Nat) : Int))).rowIs S 47 (n * 3) (slF nd pl st) := fun S _ h => (h.setOther (row_ne h HH.out.o (by decide)) _).setOther (row_ne h HH.out.o (by decide)) _
    have ez : ((0 : Nat) : Int) = 0 := rfl
    rw [ez] at o1 t1 s1
    generalize (w.setCell ⟨O, 3, none⟩ (.int .i64 0)).setCell ⟨O, 2, none⟩ (.int .u32 0) = w1 at o1 t1 s1 ⊢
    have y0 : w1.cell? ⟨O, 0, none⟩ = some (.slice a n n) := o1.cell (by omega)
    have y2 : w1.cell? ⟨O, 2, none⟩ = some (.int .u32 0) := o1.cell (by omega)
    have fo1 : ∀ j, w1.frozen? ⟨O, j, none⟩ = false := fun j => o1.frozen j
    have O1 : Hid (w1.rowIs O 37 9 (reF (.slice a n n) sh 0 0 v4 v5 v6 v7 v8)) := o1
    clear x2 x3 fo o1
    rcases HH.out.s with ⟨rfl, rfl⟩ | ⟨S, k, rfl, hs, hn, h4, h15, hsh, hle⟩
    · have hcl : ∀ ty, (Builtin.clear_ #[31] ty #[.slice none 0 0]).run Ybad.prog w1 = .ok (.tuple #[]) w1 := fun ty => by simp [Builtin.clear_, run_underlying Ybad.underlying31]
      go_wp2
      go_end0
      exact ⟨nd, pl, st, rfl, t1.setCell (p := ⟨O, 2, none⟩) (.inr (.inl rfl)) _, ⟨re_stamp O1.out 1, .inl ⟨rfl, rfl⟩, by omega⟩, fun i hi => absurd hi (by omega), by omega⟩
    · have hs1 := s1 S rfl hs
      have hn0 : 0 < n := by rw [hn]; exact Nat.two_pow_pos _
      obtain ⟨vs, hcl, hrow⟩ : ∃ vs, (∀ ty, (Builtin.clear_ #[31] ty #[.slice (some ⟨S, 0, none⟩) n n]).run Ybad.prog w1 = .ok (.tuple #[]) (w1.setCells S 0 vs)) ∧ (w1.setCells S 0 vs).rowIs S 47 (n * 3) (slF (fun _ => 0) (fun _ => 0) (fun _ => 0)) := by
        obtain ⟨vs, h1, h2⟩ := run_clear47 w1 S n 0 nd pl st hn0 hs1
        exact ⟨vs, fun ty => h1, h2⟩
      have t2 : Turn (own O (some ⟨S, 0, none⟩)) w (w1.setCells S 0 vs) := turn_setCells (A := own O (some ⟨S, 0, none⟩)) (.inr rfl) vs 0 w1 t1
      have hne : O ≠ S := row_ne O1.out hs1 (by decide)
      have t3 : Turn (fun b => b = S) w1 (w1.setCells S 0 vs) := turn_setCells (A := fun b => b = S) rfl vs 0 w1 (Turn.refl _ _)
      have o2 := t3.row O1.out hne
      have HN : Hid (n = 2 ^ k) := hn
      have HSH : Hid (sh = 64 - k) := hsh
      clear hs1 s1 t1 t3 O1 hn hsh
      go_upto_region 4 with fail
      generalize w1.setCells S 0 vs = w2 at hrow t2 o2 ⊢
      have y2' : w2.cell? ⟨O, 2, none⟩ = some (.int .u32 0) := o2.cell (by omega)
      have fo2 : ∀ j, w2.frozen? ⟨O, j, none⟩ = false := fun j => o2.frozen j
      have O2 : Hid (w2.rowIs O 37 9 (reF (.slice (some ⟨S, 0, none⟩) n n) sh 0 0 v4 v5 v6 v7 v8)) := o2
      have HR : Hid (w2.rowIs S 47 (n * 3) (slF (fun _ => 0) (fun _ => 0) (fun _ => 0))) := hrow
      clear hcl o2 hrow y0 y2 fo1
      go_wp2
      go_end0
      exact ⟨rfl, t2.setCell (p := ⟨O, 2, none⟩) (.inr (.inl rfl)) _, fun _ => 0, fun _ => 0, fun _ => 0, ⟨re_stamp O2.out 1, .inr ⟨S, k, rfl, HR.out.setOther (Ne.symm hne) _, HN.out, h4, h15, HSH.out, fun _ _ => Nat.zero_le _⟩, by omega⟩, fun _ _ => Nat.zero_ne_one⟩
  · have hx : nxt cur = cur + 1 := if_neg hw
    obtain ⟨m, hm⟩ : ∃ m, m = cur + 1 := ⟨_, rfl⟩
    have e1 : IntKind.u32.wrap ((cur : Int) + 1) = (m : Int) := by rw [IntKind.wrap_u32]; omega
    have e3 : ((m : Int) == 0) = false := by simp; omega
    rw [hx, ← hm]
    have HM : Hid (m = cur + 1) := hm
    clear hm
    go_enter Ybad.func19, Ybad.ntmps19
    go_wp2
    go_end0
    have hm := HM.out
    have o1 : ((w.setCell ⟨O, 3, none⟩ (.int .i64 ((0 : Nat) : Int))).setCell ⟨O, 2, none⟩ (.int .u32 (m : Int))).rowIs O 37 9 (reF (.slice a n n) sh m 0 v4 v5 v6 v7 v8) := re_stamp (re_used HH.out.o 0) m
    refine ⟨nd, pl, st, rfl, ((Turn.refl (own O a) w).setCell (p := ⟨O, 3, none⟩) (.inr (.inl rfl)) _).setCell (p := ⟨O, 2, none⟩) (.inr (.inl rfl)) _, ⟨o1, ?_, by omega⟩, ?_, by omega⟩
    · rcases HH.out.s with hs | ⟨S, k, ha, hs, hn, h4, h15, hsh, hle⟩
      · exact .inl hs
      · exact .inr ⟨S, k, ha, (hs.setOther (row_ne hs HH.out.o (by decide)) _).setOther (row_ne hs HH.out.o (by decide)) _, hn, h4, h15, hsh, fun i hi => by have := hle i hi; omega⟩
    · intro i hi
      rcases HH.out.s with ⟨_, rfl⟩ | ⟨S, k, ha, hs, hn, h4, h15, hsh, hle⟩
      · omega
      · have := hle i hi
        omega
end Go.Proofs.YbulkegnmDoor
