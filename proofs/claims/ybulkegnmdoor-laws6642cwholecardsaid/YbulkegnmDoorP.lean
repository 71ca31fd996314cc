import Derived.Test.YbulkegnmDoorG
import Derived.Laws.IdiomCopy
namespace Go.Proofs.YbulkegnmDoor
open Go Go.RowKit

set_option maxHeartbeats 1000000 in
set_option maxRecDepth 100000 in
/-- placeOf where the table grows first. -/
theorem place_grow (O S0 n0 k cur sh : Nat) (a : Option Addr) (h0 : Int → Nat) (nd0 pl0 : Nat → Int) (st0 : Nat → Nat) (E : List (Int × Int)) (v4 v5 v6 v7 v8 : Value) (x p : Int) (w0 : World)
    (ho : w0.rowIs O 37 9 (reF (.slice a n0 n0) sh cur E.length v4 v5 v6 v7 v8)) (ha : 0 < n0 → a = some ⟨S0, 0, none⟩ ∧ w0.rowIs S0 47 (n0 * 3) (slF nd0 pl0 st0)) (inv : TInv n0 h0 cur nd0 pl0 st0 E)
    (hk' : max 16 (2 * n0) = 2 ^ k) (h4 : 4 ≤ k) (h15 : k ≤ 15) (c0 : 1 ≤ cur) (c1 : cur < 4294967296) (hz : TzOk w0) (hO8 : O ≠ 8) (hg : n0 < 2 * (E.length + 1)) (hu0 : 2 * (E.length + 1) ≤ 2 ^ k) :
    Calls Ybad.prog 20 #[.pointer (some ⟨O, 0, none⟩), .int .i64 x, .int .i64 p] w0 fun e w' => ∃ S' nd' pl' st' E' q sn, e = .returned (.tuple #[.int .i64 q, .bool sn]) ∧ Turn (fun b => b = O) w0 w' ∧ Tb w' O S' (2 ^ k) k cur nd' pl' st' E' v4 v5 v6 v7 v8 ∧ Res x p q sn E E' ∧ w0.heap.size ≤ S' := by
  have hgr := fun W (t : Turn (fun _ => False) w0 W) => grow_any O S0 n0 k cur sh a h0 nd0 pl0 st0 E v4 v5 v6 v7 v8 W (t.row ho (fun y => y)) (fun h => ⟨(ha h).1, t.row (ha h).2 (fun y => y)⟩) inv hk' h4 h15 c0 c1 (hz.turn t (fun y => y)) hO8
  obtain ⟨n, hnk⟩ : ∃ n, n = 2 ^ k := ⟨_, rfl⟩
  rw [← hnk] at hgr hu0 ⊢
  have x0 : w0.cell? ⟨O, 0, none⟩ = some (.slice a n0 n0) := ho.cell (by omega)
  have x3 : w0.cell? ⟨O, 3, none⟩ = some (.int .i64 (E.length : Nat)) := ho.cell (by omega)
  have hn0 : n0 ≤ 32768 := by
    have hb1 : 2 ^ k ≤ 2 ^ 15 := Nat.pow_le_pow_right (by omega) h15
    have hb2 : (2 : Nat) ^ 15 = 32768 := by decide
    omega
  have hu1 : E.length ≤ 32768 := by
    have hb1 : 2 ^ k ≤ 2 ^ 15 := Nat.pow_le_pow_right (by omega) h15
    have hb2 : (2 : Nat) ^ 15 = 32768 := by decide
    omega
  have hdg : decide ((n0 : Int) < 2 * ((E.length : Int) + 1)) = true := by simp; omega
  obtain ⟨u, hlu⟩ : ∃ u, u = E.length := ⟨_, rfl⟩
  rw [← hlu] at x3 hdg hu0 hu1
  have HU : Hid (u = E.length) := hlu
  clear hk' hnk hlu ho ha inv hz hg
  go_enter Ybad.func20, Ybad.ntmps20
  go_upto_region 1 with fail
  go_quiet (fail)
  go_upto_region 3 with (go_at_call 22; refine (hgr _ ((Turn.refl _ _).drewN _)).mono ?_; rintro e w ⟨S, nd, pl, st, rfl, t0, h, hS⟩)
  have t0 : Turn (fun b => b = O) w0 w := ((Turn.refl (fun b => b = O) w0).drewN _).trans t0 (fun _ _ y => y)
  have hS : w0.heap.size ≤ S := hS
  have HT : Hid (Tb w O S n k cur nd pl st E v4 v5 v6 v7 v8) := h
  have hn := h.n16
  obtain ⟨hn1, hn2⟩ := hn
  have fin : ∀ (e : Ending) (w' : World), (∃ nd' pl' st' E' q sn, e = .returned (.tuple #[.int .i64 q, .bool sn]) ∧ Turn (fun b => b = O ∨ b = S) w w' ∧ Tb w' O S n k cur nd' pl' st' E' v4 v5 v6 v7 v8 ∧ Res x p q sn E E') →
      ∃ S' nd' pl' st' E' q sn, e = .returned (.tuple #[.int .i64 q, .bool sn]) ∧ Turn (fun b => b = O) w0 w' ∧ Tb w' O S' n k cur nd' pl' st' E' v4 v5 v6 v7 v8 ∧ Res x p q sn E E' ∧ w0.heap.size ≤ S' := by
    rintro e w' ⟨nd', pl', st', E', q, sn, r1, r2, r3, r4⟩
    exact ⟨S, nd', pl', st', E', q, sn, r1, t0.trans r2 (fun i hi e => by rcases e with e | e; exact e; omega), r3, r4, hS⟩
  have x0 : w.cell? ⟨O, 0, none⟩ = some (.slice (some ⟨S, 0, none⟩) n n) := h.o.cell (by omega)
  have x1 : w.cell? ⟨O, 1, none⟩ = some (.int .u64 ((64 - k : Nat) : Int)) := h.o.cell (by omega)
  have hhome : ∀ W : World, Turn (fun _ => False) w W → Calls Ybad.prog 23 #[.pointer (some ⟨O, 0, none⟩), .int .i64 x] W fun e w' => e = .returned (.int .i64 (hm k x)) ∧ w' = W := fun W t => home_any O k x W h.k4 h.k15 (t.cell x1 (fun y => y))
  have hu : 2 * (u + 1) ≤ n := hu0
  clear h x1
  go_wp2_with (go_at_call 23; refine (hhome _ (Turn.refl _ _)).mono ?_; rintro e w' ⟨rfl, hw'⟩; replace hw' := hw'.symm; subst hw')
  go_loopg [9] n (fun gk s9 wr => ∃ d : Nat, d < n ∧ gk = n - d ∧ s9 = .int .i64 (((hm k x + d) % n : Nat) : Int) ∧ Turn (fun _ => False) w wr ∧ ∀ d', d' < d → st ((hm k x + d') % n) = cur ∧ nd ((hm k x + d') % n) ≠ x)
  case atStart => exact ⟨0, by omega, rfl, by rw [Nat.add_zero, Nat.mod_eq_of_lt (HT.out.hlt x)], Turn.refl _ _, fun d' hd => absurd hd (by omega)⟩
  case round =>
    obtain ⟨d, hd, hgk, rfl, hT, hw⟩ := hrel
    have HW : Hid (∀ d', d' < d → st ((hm k x + d') % n) = cur ∧ nd ((hm k x + d') % n) ≠ x) := hw
    have H2 : Hid (Tb wr O S n k cur nd pl st E v4 v5 v6 v7 v8) := HT.out.turn hT (fun y => y) (fun y => y)
    obtain ⟨i, hi⟩ : ∃ i, i = (hm k x + d) % n := ⟨_, rfl⟩
    have hin : i < n := by rw [hi]; exact Nat.mod_lt _ (by omega)
    have HI : Hid (i = (hm k x + d) % n) := hi
    rw [← hi]
    have y0 : wr.cell? ⟨O, 0, none⟩ = some (.slice (some ⟨S, 0, none⟩) n n) := H2.out.o.cell (by omega)
    have y2 : wr.cell? ⟨O, 2, none⟩ = some (.int .u32 cur) := H2.out.o.cell (by omega)
    have y3 : wr.cell? ⟨O, 3, none⟩ = some (.int .i64 u) := by rw [HU.out]; exact H2.out.o.cell (by omega)
    have z0 : wr.cell? ⟨S, i * 3, none⟩ = some (.int .i64 (nd i)) := H2.out.cell0 hin
    have z1 : wr.cell? ⟨S, i * 3 + 1, none⟩ = some (.int .i64 (pl i)) := H2.out.cell1 hin
    have z2 : wr.cell? ⟨S, i * 3 + 2, none⟩ = some (.int .u32 (st i)) := H2.out.cell2 hin
    have i0 : (0 : Int) ≤ (i : Int) := by omega
    have i1 : (i : Int) < (n : Int) := by omega
    have hns : bits .and .i64 ((i : Int) + 1) ((n : Int) - 1) = (((i + 1) % n : Nat) : Int) := next_slot k n i HT.out.nk HT.out.k15 hin
    clear hw hi
    by_cases hlive : st i = cur
    · have hd1 : decide ((st i : Int) = (cur : Int)) = true := by simp; omega
      by_cases hnode : nd i = x
      · have hd2 : decide (nd i = x) = true := by simp [hnode]
        go_upto_region 7 with fail
        go_quiet (fail)
        go_wp2
        go_ret2
        refine fin _ _ ⟨nd, pl, st, E, pl i, true, rfl, (hT.drewN _).mono (fun _ _ y => y.elim), H2.out.turn ((Turn.refl (fun _ => False) _).drewN _) (fun y => y) (fun y => y), .inl ⟨rfl, ?_, rfl⟩⟩
        have := H2.out.inv.inE i hin hlive
        rwa [hnode] at this
      · have hd2 : decide (nd i = x) = false := by simp [hnode]
        have hd4 : (nd i == x) = false := by simp [hnode]
        go_upto_region 7 with fail
        go_quiet (fail)
        go_wp2
        have hall : ∀ d', d' ≤ d → st ((hm k x + d') % n) = cur ∧ nd ((hm k x + d') % n) ≠ x := by
          intro d' hd'
          by_cases e : d' = d
          · rw [e, ← HI.out]; exact ⟨hlive, hnode⟩
          · exact HW.out d' (by omega)
        have hlt := H2.out.inv.go_on (by have := HU.out; omega) x (H2.out.hlt x) d hd (fun d' hd' => (hall d' hd').1)
        go_roundg (n - (d + 1))
        case measure => omega
        case rel => exact ⟨d + 1, hlt, rfl, val_int (by have e := Nat.mod_add_mod (hm k x + d) n 1; rw [← HI.out, Nat.add_assoc] at e; rw [← e]; simp), hT.drewN _, fun d' hd' => hall d' (by omega)⟩
    · have hd1 : decide ((st i : Int) = (cur : Int)) = false := by simp; omega
      have hd3 : ((st i : Int) != (cur : Int)) = true := by simp; omega
      have fs : ∀ j, wr.frozen? ⟨S, j, none⟩ = false := fun j => H2.out.s.frozen j
      have fo : ∀ j, wr.frozen? ⟨O, j, none⟩ = false := fun j => H2.out.o.frozen j
      go_upto_region 7 with fail
      go_quiet (fail)
      go_upto_region 9 with fail
      have so : O ≠ S := H2.out.ne
      have r1 : (((wr.drewN nq).setCell ⟨S, i * 3, none⟩ (.int .i64 x)).setCell ⟨S, i * 3 + 1, none⟩ (.int .i64 p)).setCell ⟨S, i * 3 + 2, none⟩ (.int .u32 cur) |>.rowIs S 47 (n * 3) (slF (upd nd i x) (upd pl i p) (upd st i cur)) := slots_put (w := wr.drewN nq) H2.out.s i x p cur
      have r2 : (((wr.drewN nq).setCell ⟨S, i * 3, none⟩ (.int .i64 x)).setCell ⟨S, i * 3 + 1, none⟩ (.int .i64 p)).setCell ⟨S, i * 3 + 2, none⟩ (.int .u32 cur) |>.rowIs O 37 9 (reF (.slice (some ⟨S, 0, none⟩) n n) (64 - k) cur E.length v4 v5 v6 v7 v8) := ((World.rowIs.setOther (w := wr.drewN nq) H2.out.o so _).setOther so _).setOther so _
      have t2 : Turn (fun b => b = O ∨ b = S) w ((((wr.drewN nq).setCell ⟨S, i * 3, none⟩ (.int .i64 x)).setCell ⟨S, i * 3 + 1, none⟩ (.int .i64 p)).setCell ⟨S, i * 3 + 2, none⟩ (.int .u32 cur)) := (((((hT.drewN nq).mono (fun _ _ y => y.elim)).setCell (.inr (.inr rfl)) _).setCell (.inr (.inr rfl)) _).setCell (.inr (.inr rfl)) _)
      generalize (((wr.drewN nq).setCell ⟨S, i * 3, none⟩ (.int .i64 x)).setCell ⟨S, i * 3 + 1, none⟩ (.int .i64 p)).setCell ⟨S, i * 3 + 2, none⟩ (.int .u32 cur) = w3 at r1 r2 t2 ⊢
      have y3' : w3.cell? ⟨O, 3, none⟩ = some (.int .i64 u) := by rw [HU.out]; exact r2.cell (by omega)
      have fo' : ∀ j, w3.frozen? ⟨O, j, none⟩ = false := fun j => r2.frozen j
      have R1 : Hid (w3.rowIs S 47 (n * 3) (slF (upd nd i x) (upd pl i p) (upd st i cur))) := r1
      have R2 : Hid (w3.rowIs O 37 9 (reF (.slice (some ⟨S, 0, none⟩) n n) (64 - k) cur E.length v4 v5 v6 v7 v8)) := r2
      clear r1 r2 y0 y2 y3 z0 z1 z2 fs fo
      go_wp2
      go_ret2
      have hlen : (E ++ [(x, p)]).length = u + 1 := by rw [List.length_append, ← HU.out]; rfl
      have hfree : st ((hm k x + d) % n) ≠ cur := by rw [← HI.out]; exact hlive
      have hins := H2.out.inv.insert x p (by omega) d hd HW.out hfree
      rw [← HI.out] at hins
      refine fin _ _ ⟨upd nd i x, upd pl i p, upd st i cur, E ++ [(x, p)], p, false, rfl, t2.setCell (.inr (.inl rfl)) _, ⟨?_, ?_, HT.out.nk, HT.out.k4, HT.out.k15, hins, ?_, HT.out.c0, HT.out.c1, by rw [hlen]; exact hu⟩, .inr ⟨rfl, rfl, H2.out.inv.absent x d HW.out hfree, rfl⟩⟩
      · rw [hlen]
        exact re_used R2.out (u + 1)
      · exact R1.out.setOther (Ne.symm so) _
      · intro j hj
        by_cases e : j = i
        · rw [e, upd_same]; exact Nat.le_refl _
        · rw [upd_other _ _ e]; exact HT.out.le j hj

/-- A table, or none, between two searches. -/
structure Tq (w : World) (O : Nat) (a : Option Addr) (n sh cur used : Nat) (nd pl : Nat → Int) (st : Nat → Nat) (v4 v5 v6 v7 v8 : Value) : Prop where
  o : w.rowIs O 37 9 (reF (.slice a n n) sh cur used v4 v5 v6 v7 v8)
  s : (a = none ∧ n = 0) ∨ ∃ S k, a = some ⟨S, 0, none⟩ ∧ w.rowIs S 47 (n * 3) (slF nd pl st) ∧ n = 2 ^ k ∧ 4 ≤ k ∧ k ≤ 15 ∧ sh = 64 - k ∧ ∀ i, i < n → st i ≤ cur
  c1 : cur < 4294967296
theorem Tb.tq {w : World} {O S n k cur : Nat} {nd pl : Nat → Int} {st : Nat → Nat} {E : List (Int × Int)} {v4 v5 v6 v7 v8 : Value} (h : Tb w O S n k cur nd pl st E v4 v5 v6 v7 v8) : Tq w O (some ⟨S, 0, none⟩) n (64 - k) cur E.length nd pl st v4 v5 v6 v7 v8 :=
  ⟨h.o, .inr ⟨S, k, rfl, h.s, h.nk, h.k4, h.k15, rfl, h.le⟩, h.c1⟩
/-- The blocks of a reach's table. -/
def own (O : Nat) (a : Option Addr) (b : Nat) : Prop := b = O ∨ a = some ⟨b, 0, none⟩
/-- placeOf at an empty table. -/
theorem place_first (O : Nat) (a : Option Addr) (n sh cur : Nat) (nd pl : Nat → Int) (st : Nat → Nat) (v4 v5 v6 v7 v8 : Value) (x : Int) (w : World) (h : Tq w O a n sh cur 0 nd pl st v4 v5 v6 v7 v8) (hf : ∀ i, i < n → st i ≠ cur) (c0 : 1 ≤ cur) (hz : TzOk w) (hO8 : O ≠ 8) :
    Calls Ybad.prog 20 #[.pointer (some ⟨O, 0, none⟩), .int .i64 x, .int .i64 0] w fun e w' => ∃ S' n' k' nd' pl' st', e = .returned (.tuple #[.int .i64 0, .bool false]) ∧ Turn (own O a) w w' ∧ Tb w' O S' n' k' cur nd' pl' st' (enumE [x]) v4 v5 v6 v7 v8 ∧ (a = some ⟨S', 0, none⟩ ∨ w.heap.size ≤ S') := by
  rcases h.s with ⟨rfl, rfl⟩ | ⟨S, k, rfl, hs, hn, h4, h15, rfl, hle⟩
  · refine (place_grow O 0 0 4 cur sh none (fun _ => 0) nd pl st [] v4 v5 v6 v7 v8 x 0 w h.o (fun h => absurd h (by omega)) (TInv.empty _ _ _ _ _ _ hf) (by decide) (by omega) (by omega) c0 h.c1 hz hO8 (by simp) (by simp)).mono ?_
    rintro e w' ⟨S', nd', pl', st', E', q, sn, rfl, t, hB, hR, hS⟩
    rcases hR with ⟨_, hm, _⟩ | ⟨rfl, rfl, _, rfl⟩
    · cases hm
    · exact ⟨S', _, _, nd', pl', st', rfl, t.mono (fun i _ e => .inl e), hB, .inr hS⟩
  · have hB : Tb w O S n k cur nd pl st [] v4 v5 v6 v7 v8 := ⟨h.o, hs, hn, h4, h15, TInv.empty _ _ _ _ _ _ hf, hle, c0, h.c1, by simp⟩
    refine (place_in O S n k cur nd pl st [] v4 v5 v6 v7 v8 x 0 w hB (by have := hB.n16; simp; omega)).mono ?_
    rintro e w' ⟨nd', pl', st', E', q, sn, rfl, t, hB, hR⟩
    rcases hR with ⟨_, hm, _⟩ | ⟨rfl, rfl, _, rfl⟩
    · cases hm
    · exact ⟨S, _, _, nd', pl', st', rfl, t.mono (fun i _ e => by rcases e with e | e; exact .inl e; exact .inr (by rw [e])), hB, .inl rfl⟩
theorem pow_next {n k m : Nat} (hn : n = 2 ^ k) (h4 : 4 ≤ k) (hm : n < 2 * (m + 1)) (hb : m ≤ 5000) : max 16 (2 * n) = 2 ^ (k + 1) ∧ k + 1 ≤ 15 := by
  have h1 : 2 ^ 4 ≤ 2 ^ k := Nat.pow_le_pow_right (by omega) h4
  have h2 : (2 : Nat) ^ 4 = 16 := by decide
  have h3 : k < 14 := by
    rcases Nat.lt_or_ge k 14 with h | h
    · exact h
    · have h5 : 2 ^ 14 ≤ 2 ^ k := Nat.pow_le_pow_right (by omega) h
      have h6 : (2 : Nat) ^ 14 = 16384 := by decide
      omega
  refine ⟨?_, by omega⟩
  rw [Nat.pow_succ]
  omega
/-- placeOf. -/
theorem place_any (O S n k cur : Nat) (nd pl : Nat → Int) (st : Nat → Nat) (E : List (Int × Int)) (v4 v5 v6 v7 v8 : Value) (x p : Int) (w : World) (h : Tb w O S n k cur nd pl st E v4 v5 v6 v7 v8) (hE : E.length ≤ 5000) (hz : TzOk w) (hO8 : O ≠ 8) :
    Calls Ybad.prog 20 #[.pointer (some ⟨O, 0, none⟩), .int .i64 x, .int .i64 p] w fun e w' => ∃ S' n' k' nd' pl' st' E' q sn, e = .returned (.tuple #[.int .i64 q, .bool sn]) ∧ Turn (fun b => b = O ∨ b = S) w w' ∧ Tb w' O S' n' k' cur nd' pl' st' E' v4 v5 v6 v7 v8 ∧ Res x p q sn E E' ∧ (S' = S ∨ w.heap.size ≤ S') := by
  by_cases hg : 2 * (E.length + 1) ≤ n
  · refine (place_in O S n k cur nd pl st E v4 v5 v6 v7 v8 x p w h hg).mono ?_
    rintro e w' ⟨nd', pl', st', E', q, sn, rfl, t, hB, hR⟩
    exact ⟨S, _, _, nd', pl', st', E', q, sn, rfl, t, hB, hR, .inl rfl⟩
  · have hhalf := h.half
    have hn := h.n16
    obtain ⟨p1, p2⟩ := pow_next h.nk h.k4 (show n < 2 * (E.length + 1) by omega) hE
    refine (place_grow O S n (k + 1) cur (64 - k) (some ⟨S, 0, none⟩) (hm k) nd pl st E v4 v5 v6 v7 v8 x p w h.o (fun _ => ⟨rfl, h.s⟩) h.inv p1 (by have := h.k4; omega) p2 h.c0 h.c1 hz hO8 (by omega) (by omega)).mono ?_
    rintro e w' ⟨S', nd', pl', st', E', q, sn, rfl, t, hB, hR, hS⟩
    exact ⟨S', _, _, nd', pl', st', E', q, sn, rfl, t.mono (fun i _ e => .inl e), hB, hR, .inr hS⟩
end Go.Proofs.YbulkegnmDoor
