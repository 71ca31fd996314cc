import Derived.Test.YbulkegnmDoorHome
namespace Go.Proofs.YbulkegnmDoor
open Go Go.RowKit

/-- The nine cells of a reach. -/
def reF (sv : Value) (sh cur used : Nat) (v4 v5 v6 v7 v8 : Value) : Nat → Value := fun j =>
  if j = 0 then sv else if j = 1 then .int .u64 sh else if j = 2 then .int .u32 cur else if j = 3 then .int .i64 used else if j = 4 then v4 else if j = 5 then v5 else if j = 6 then v6 else if j = 7 then v7 else v8
/-- The cells of a table's slots. -/
def slF (nd pl : Nat → Int) (st : Nat → Nat) : Nat → Value := fun j => if j % 3 = 0 then .int .i64 (nd (j / 3)) else if j % 3 = 1 then .int .i64 (pl (j / 3)) else .int .u32 (st (j / 3))
theorem slF0 (nd pl : Nat → Int) (st : Nat → Nat) (q : Nat) : slF nd pl st (q * 3) = .int .i64 (nd q) := by
  unfold slF; rw [if_pos (by omega), show q * 3 / 3 = q by omega]
theorem slF1 (nd pl : Nat → Int) (st : Nat → Nat) (q : Nat) : slF nd pl st (q * 3 + 1) = .int .i64 (pl q) := by
  unfold slF; rw [if_neg (by omega), if_pos (by omega), show (q * 3 + 1) / 3 = q by omega]
theorem slF2 (nd pl : Nat → Int) (st : Nat → Nat) (q : Nat) : slF nd pl st (q * 3 + 2) = .int .u32 (st q) := by
  unfold slF; rw [if_neg (by omega), if_neg (by omega), show (q * 3 + 2) / 3 = q by omega]

/-- The reach at block O, its table of n = 2^k slots at block S holding the entries E under the stamp cur. -/
structure Tb (w : World) (O S n k cur : Nat) (nd pl : Nat → Int) (st : Nat → Nat) (E : List (Int × Int)) (v4 v5 v6 v7 v8 : Value) : Prop where
  o : w.rowIs O 37 9 (reF (.slice (some ⟨S, 0, none⟩) n n) (64 - k) cur E.length v4 v5 v6 v7 v8)
  s : w.rowIs S 47 (n * 3) (slF nd pl st)
  nk : n = 2 ^ k
  k4 : 4 ≤ k
  k15 : k ≤ 15
  inv : TInv n (hm k) cur nd pl st E
  le : ∀ i, i < n → st i ≤ cur
  c0 : 1 ≤ cur
  c1 : cur < 4294967296
  half : 2 * E.length ≤ n
theorem row_ne {w : World} {b g n n' : Nat} {T T' : TypeId} {f f' : Nat → Value} (h : w.rowIs b T n f) (h' : w.rowIs g T' n' f') (hT : T ≠ T') : b ≠ g := by
  obtain ⟨c, hb, _⟩ := h
  obtain ⟨c', hb', _⟩ := h'
  intro e
  subst e
  rw [hb] at hb'
  cases hb'
  exact hT rfl
theorem sl_ne {w : World} {b g n n' cp : Nat} {T T' : TypeId} {f f' : Nat → Value} (h : SlI w T b n cp f) (h' : w.rowIs g T' n' f') (hT : T ≠ T') : b ≠ g := by
  obtain ⟨_, _, c, hb, _⟩ := h
  obtain ⟨c', hb', _⟩ := h'
  intro e
  subst e
  rw [hb] at hb'
  cases hb'
  exact hT rfl
namespace Tb
variable {w w' : World} {O S n k cur : Nat} {nd pl : Nat → Int} {st : Nat → Nat} {E : List (Int × Int)} {v4 v5 v6 v7 v8 : Value}
theorem turn {A : Nat → Prop} (h : Tb w O S n k cur nd pl st E v4 v5 v6 v7 v8) (t : Turn A w w') (h1 : ¬ A O) (h2 : ¬ A S) : Tb w' O S n k cur nd pl st E v4 v5 v6 v7 v8 :=
  ⟨t.row h.o h1, t.row h.s h2, h.nk, h.k4, h.k15, h.inv, h.le, h.c0, h.c1, h.half⟩
theorem n16 (h : Tb w O S n k cur nd pl st E v4 v5 v6 v7 v8) : 16 ≤ n ∧ n ≤ 32768 := by
  have h1 : 2 ^ 4 ≤ 2 ^ k := Nat.pow_le_pow_right (by omega) h.k4
  have h2 : 2 ^ k ≤ 2 ^ 15 := Nat.pow_le_pow_right (by omega) h.k15
  have h3 : (2 : Nat) ^ 15 = 32768 := by decide
  have h4 : (2 : Nat) ^ 4 = 16 := by decide
  rw [h.nk]
  omega
theorem hlt (h : Tb w O S n k cur nd pl st E v4 v5 v6 v7 v8) (x : Int) : hm k x < n := by rw [h.nk]; exact hm_lt k x (by have := h.k15; omega)
theorem ne (h : Tb w O S n k cur nd pl st E v4 v5 v6 v7 v8) : O ≠ S := row_ne h.o h.s (by decide)
theorem cell0 (h : Tb w O S n k cur nd pl st E v4 v5 v6 v7 v8) {q : Nat} (hq : q < n) : w.cell? ⟨S, q * 3, none⟩ = some (.int .i64 (nd q)) := by rw [h.s.cell (by omega), slF0]
theorem cell1 (h : Tb w O S n k cur nd pl st E v4 v5 v6 v7 v8) {q : Nat} (hq : q < n) : w.cell? ⟨S, q * 3 + 1, none⟩ = some (.int .i64 (pl q)) := by rw [h.s.cell (by omega), slF1]
theorem cell2 (h : Tb w O S n k cur nd pl st E v4 v5 v6 v7 v8) {q : Nat} (hq : q < n) : w.cell? ⟨S, q * 3 + 2, none⟩ = some (.int .u32 (st q)) := by rw [h.s.cell (by omega), slF2]
end Tb
theorem nine {j : Nat} (h : j < 9) : j = 0 ∨ j = 1 ∨ j = 2 ∨ j = 3 ∨ j = 4 ∨ j = 5 ∨ j = 6 ∨ j = 7 ∨ j = 8 := by omega
theorem re_used {w : World} {O sh cur used : Nat} {sv v4 v5 v6 v7 v8 : Value} (h : w.rowIs O 37 9 (reF sv sh cur used v4 v5 v6 v7 v8)) (u : Nat) : (w.setCell ⟨O, 3, none⟩ (.int .i64 u)).rowIs O 37 9 (reF sv sh cur u v4 v5 v6 v7 v8) :=
  row_put h 3 _ _ (fun j hj => by rcases nine hj with rfl | rfl | rfl | rfl | rfl | rfl | rfl | rfl | rfl <;> rfl)
theorem re_slots {w : World} {O sh cur used : Nat} {sv v4 v5 v6 v7 v8 : Value} (h : w.rowIs O 37 9 (reF sv sh cur used v4 v5 v6 v7 v8)) (u : Value) : (w.setCell ⟨O, 0, none⟩ u).rowIs O 37 9 (reF u sh cur used v4 v5 v6 v7 v8) :=
  row_put h 0 _ _ (fun j hj => by rcases nine hj with rfl | rfl | rfl | rfl | rfl | rfl | rfl | rfl | rfl <;> rfl)
theorem re_shift {w : World} {O sh cur used : Nat} {sv v4 v5 v6 v7 v8 : Value} (h : w.rowIs O 37 9 (reF sv sh cur used v4 v5 v6 v7 v8)) (u : Nat) : (w.setCell ⟨O, 1, none⟩ (.int .u64 u)).rowIs O 37 9 (reF sv u cur used v4 v5 v6 v7 v8) :=
  row_put h 1 _ _ (fun j hj => by rcases nine hj with rfl | rfl | rfl | rfl | rfl | rfl | rfl | rfl | rfl <;> rfl)
theorem re_stamp {w : World} {O sh cur used : Nat} {sv v4 v5 v6 v7 v8 : Value} (h : w.rowIs O 37 9 (reF sv sh cur used v4 v5 v6 v7 v8)) (u : Nat) : (w.setCell ⟨O, 2, none⟩ (.int .u32 u)).rowIs O 37 9 (reF sv sh u used v4 v5 v6 v7 v8) :=
  row_put h 2 _ _ (fun j hj => by rcases nine hj with rfl | rfl | rfl | rfl | rfl | rfl | rfl | rfl | rfl <;> rfl)
theorem re_v4 {w : World} {O sh cur used : Nat} {sv v4 v5 v6 v7 v8 : Value} (h : w.rowIs O 37 9 (reF sv sh cur used v4 v5 v6 v7 v8)) (u : Value) : (w.setCell ⟨O, 4, none⟩ u).rowIs O 37 9 (reF sv sh cur used u v5 v6 v7 v8) :=
  row_put h 4 _ _ (fun j hj => by rcases nine hj with rfl | rfl | rfl | rfl | rfl | rfl | rfl | rfl | rfl <;> rfl)
theorem re_v5 {w : World} {O sh cur used : Nat} {sv v4 v5 v6 v7 v8 : Value} (h : w.rowIs O 37 9 (reF sv sh cur used v4 v5 v6 v7 v8)) (u : Value) : (w.setCell ⟨O, 5, none⟩ u).rowIs O 37 9 (reF sv sh cur used v4 u v6 v7 v8) :=
  row_put h 5 _ _ (fun j hj => by rcases nine hj with rfl | rfl | rfl | rfl | rfl | rfl | rfl | rfl | rfl <;> rfl)
theorem re_v6 {w : World} {O sh cur used : Nat} {sv v4 v5 v6 v7 v8 : Value} (h : w.rowIs O 37 9 (reF sv sh cur used v4 v5 v6 v7 v8)) (u : Value) : (w.setCell ⟨O, 6, none⟩ u).rowIs O 37 9 (reF sv sh cur used v4 v5 u v7 v8) :=
  row_put h 6 _ _ (fun j hj => by rcases nine hj with rfl | rfl | rfl | rfl | rfl | rfl | rfl | rfl | rfl <;> rfl)
theorem re_v7 {w : World} {O sh cur used : Nat} {sv v4 v5 v6 v7 v8 : Value} (h : w.rowIs O 37 9 (reF sv sh cur used v4 v5 v6 v7 v8)) (u : Value) : (w.setCell ⟨O, 7, none⟩ u).rowIs O 37 9 (reF sv sh cur used v4 v5 v6 u v8) :=
  row_put h 7 _ _ (fun j hj => by rcases nine hj with rfl | rfl | rfl | rfl | rfl | rfl | rfl | rfl | rfl <;> rfl)
theorem re_v8 {w : World} {O sh cur used : Nat} {sv v4 v5 v6 v7 v8 : Value} (h : w.rowIs O 37 9 (reF sv sh cur used v4 v5 v6 v7 v8)) (u : Value) : (w.setCell ⟨O, 8, none⟩ u).rowIs O 37 9 (reF sv sh cur used v4 v5 v6 v7 u) :=
  row_put h 8 _ _ (fun j hj => by rcases nine hj with rfl | rfl | rfl | rfl | rfl | rfl | rfl | rfl | rfl <;> rfl)
theorem slots_put {w : World} {S n : Nat} {nd pl : Nat → Int} {st : Nat → Nat} (h : w.rowIs S 47 (n * 3) (slF nd pl st)) (i : Nat) (x p : Int) (c : Nat) :
    (((w.setCell ⟨S, i * 3, none⟩ (.int .i64 x)).setCell ⟨S, i * 3 + 1, none⟩ (.int .i64 p)).setCell ⟨S, i * 3 + 2, none⟩ (.int .u32 c)).rowIs S 47 (n * 3) (slF (upd nd i x) (upd pl i p) (upd st i c)) := by
  refine (((h.set _ _).set _ _).set _ _).congr (fun j hj => ?_)
  by_cases e : j / 3 = i
  · rcases (show j = i * 3 ∨ j = i * 3 + 1 ∨ j = i * 3 + 2 by omega) with rfl | rfl | rfl
    · rw [if_neg (by omega), if_neg (by omega), if_pos rfl, slF0, upd_same]
    · rw [if_neg (by omega), if_pos rfl, slF1, upd_same]
    · rw [if_pos rfl, slF2, upd_same]
  · rw [if_neg (by omega), if_neg (by omega), if_neg (by omega)]
    unfold slF
    rw [upd_other _ _ e, upd_other _ _ e, upd_other _ _ e]
/-- What placeOf(x, p) answers at a table of the entries E, and the entries afterwards. -/
def Res (x p q : Int) (sn : Bool) (E E' : List (Int × Int)) : Prop := (sn = true ∧ (x, q) ∈ E ∧ E' = E) ∨ (sn = false ∧ q = p ∧ (∀ r, (x, r) ∉ E) ∧ E' = E ++ [(x, p)])

set_option maxHeartbeats 1000000 in
set_option maxRecDepth 100000 in
theorem place_in (O S n k cur : Nat) (nd pl : Nat → Int) (st : Nat → Nat) (E : List (Int × Int)) (v4 v5 v6 v7 v8 : Value) (x p : Int) (w : World) (h : Tb w O S n k cur nd pl st E v4 v5 v6 v7 v8) (hu : 2 * (E.length + 1) ≤ n) :
    Calls Ybad.prog 20 #[.pointer (some ⟨O, 0, none⟩), .int .i64 x, .int .i64 p] w fun e w' => ∃ nd' pl' st' E' q sn, e = .returned (.tuple #[.int .i64 q, .bool sn]) ∧ Turn (fun b => b = O ∨ b = S) w w' ∧ Tb w' O S n k cur nd' pl' st' E' v4 v5 v6 v7 v8 ∧ Res x p q sn E E' := by
  have HT : Hid (Tb w O S n k cur nd pl st E v4 v5 v6 v7 v8) := h
  have hn := h.n16
  obtain ⟨hn1, hn2⟩ := hn
  have x0 : w.cell? ⟨O, 0, none⟩ = some (.slice (some ⟨S, 0, none⟩) n n) := h.o.cell (by omega)
  have x1 : w.cell? ⟨O, 1, none⟩ = some (.int .u64 ((64 - k : Nat) : Int)) := h.o.cell (by omega)
  have x2 : w.cell? ⟨O, 2, none⟩ = some (.int .u32 cur) := h.o.cell (by omega)
  have x3 : w.cell? ⟨O, 3, none⟩ = some (.int .i64 (E.length : Nat)) := h.o.cell (by omega)
  have hdg : decide ((n : Int) < 2 * ((E.length : Int) + 1)) = false := by simp; omega
  have hhome : ∀ W : World, Turn (fun _ => False) w W → Calls Ybad.prog 23 #[.pointer (some ⟨O, 0, none⟩), .int .i64 x] W fun e w' => e = .returned (.int .i64 (hm k x)) ∧ w' = W := fun W t => home_any O k x W h.k4 h.k15 (t.cell x1 (fun y => y))
  obtain ⟨u, hlu⟩ : ∃ u, u = E.length := ⟨_, rfl⟩
  rw [← hlu] at x3 hdg hu
  have HU : Hid (u = E.length) := hlu
  clear h hlu x1
  go_enter Ybad.func20, Ybad.ntmps20
  go_upto_region 1 with fail
  go_quiet (fail)
  go_wp2_with (go_at_call 23; refine (hhome _ ((Turn.refl _ _).drewN _)).mono ?_; rintro e w' ⟨rfl, rfl⟩)
  go_loopg [9] n (fun gk s9 wr => ∃ d : Nat, d < n ∧ gk = n - d ∧ s9 = .int .i64 (((hm k x + d) % n : Nat) : Int) ∧ Turn (fun _ => False) w wr ∧ ∀ d', d' < d → st ((hm k x + d') % n) = cur ∧ nd ((hm k x + d') % n) ≠ x)
  case atStart => exact ⟨0, by omega, rfl, by rw [Nat.add_zero, Nat.mod_eq_of_lt (HT.out.hlt x)], (Turn.refl _ _).drewN _, fun d' hd => absurd hd (by omega)⟩
  case round =>
    obtain ⟨d, hd, hgk, rfl, hT, hw⟩ := hrel
    have HW : Hid (∀ d', d' < d → st ((hm k x + d') % n) = cur ∧ nd ((hm k x + d') % n) ≠ x) := hw
    have H2 : Hid (Tb wr O S n k cur nd pl st E v4 v5 v6 v7 v8) := HT.out.turn hT (fun y => y) (fun y => y)
    obtain ⟨i, hi⟩ : ∃ i, i = (hm k x + d) % n := ⟨_, rfl⟩
    have hin : i < n := by rw [hi]; exact Nat.mod_lt _ (by omega)
    have HI : Hid (i = (hm k x + d) % n) := hi
    rw [← hi]
    have y0 : wr.cell? ⟨O, 0, none⟩ = some (.slice (some ⟨S, 0, none⟩) n n) := H2.out.o.cell (by omega)
    have y2 : wr.cell? ⟨O, 2, none⟩ = some (.int .u32 cur) := H2.out.o.cell (by omega)
    have y3 : wr.cell? ⟨O, 3, none⟩ = some (.int .i64 u) := by rw [HU.out]; exact H2.out.o.cell (by omega)
    have z0 : wr.cell? ⟨S, i * 3, none⟩ = some (.int .i64 (nd i)) := H2.out.cell0 hin
    have z1 : wr.cell? ⟨S, i * 3 + 1, none⟩ = some (.int .i64 (pl i)) := H2.out.cell1 hin
    have z2 : wr.cell? ⟨S, i * 3 + 2, none⟩ = some (.int .u32 (st i)) := H2.out.cell2 hin
    have i0 : (0 : Int) ≤ (i : Int) := by omega
    have i1 : (i : Int) < (n : Int) := by omega
    have hns : bits .and .i64 ((i : Int) + 1) ((n : Int) - 1) = (((i + 1) % n : Nat) : Int) := next_slot k n i HT.out.nk HT.out.k15 hin
    clear hw hi x0 x2 x3
    by_cases hlive : st i = cur
    · have hd1 : decide ((st i : Int) = (cur : Int)) = true := by simp; omega
      by_cases hnode : nd i = x
      · have hd2 : decide (nd i = x) = true := by simp [hnode]
        go_upto_region 7 with fail
        go_quiet (fail)
        go_wp2
        go_ret2
        refine ⟨nd, pl, st, E, pl i, true, rfl, (hT.drewN _).mono (fun _ _ y => y.elim), H2.out.turn ((Turn.refl (fun _ => False) _).drewN _) (fun y => y) (fun y => y), .inl ⟨rfl, ?_, rfl⟩⟩
        have := H2.out.inv.inE i hin hlive
        rwa [hnode] at this
      · have hd2 : decide (nd i = x) = false := by simp [hnode]
        have hd4 : (nd i == x) = false := by simp [hnode]
        go_upto_region 7 with fail
        go_quiet (fail)
        go_wp2
        have hall : ∀ d', d' ≤ d → st ((hm k x + d') % n) = cur ∧ nd ((hm k x + d') % n) ≠ x := by
          intro d' hd'
          by_cases e : d' = d
          · rw [e, ← HI.out]; exact ⟨hlive, hnode⟩
          · exact HW.out d' (by omega)
        have hlt := H2.out.inv.go_on (by have := HU.out; omega) x (H2.out.hlt x) d hd (fun d' hd' => (hall d' hd').1)
        go_roundg (n - (d + 1))
        case measure => omega
        case rel => exact ⟨d + 1, hlt, rfl, val_int (by have e := Nat.mod_add_mod (hm k x + d) n 1; rw [← HI.out, Nat.add_assoc] at e; rw [← e]; simp), hT.drewN _, fun d' hd' => hall d' (by omega)⟩
    · have hd1 : decide ((st i : Int) = (cur : Int)) = false := by simp; omega
      have hd3 : ((st i : Int) != (cur : Int)) = true := by simp; omega
      have fs : ∀ j, wr.frozen? ⟨S, j, none⟩ = false := fun j => H2.out.s.frozen j
      have fo : ∀ j, wr.frozen? ⟨O, j, none⟩ = false := fun j => H2.out.o.frozen j
      go_upto_region 7 with fail
      go_quiet (fail)
      go_upto_region 9 with fail
      have so : O ≠ S := H2.out.ne
      have r1 : (((wr.drewN nq).setCell ⟨S, i * 3, none⟩ (.int .i64 x)).setCell ⟨S, i * 3 + 1, none⟩ (.int .i64 p)).setCell ⟨S, i * 3 + 2, none⟩ (.int .u32 cur) |>.rowIs S 47 (n * 3) (slF (upd nd i x) (upd pl i p) (upd st i cur)) := slots_put (w := wr.drewN nq) H2.out.s i x p cur
      have r2 : (((wr.drewN nq).setCell ⟨S, i * 3, none⟩ (.int .i64 x)).setCell ⟨S, i * 3 + 1, none⟩ (.int .i64 p)).setCell ⟨S, i * 3 + 2, none⟩ (.int .u32 cur) |>.rowIs O 37 9 (reF (.slice (some ⟨S, 0, none⟩) n n) (64 - k) cur E.length v4 v5 v6 v7 v8) := ((World.rowIs.setOther (w := wr.drewN nq) H2.out.o so _).setOther so _).setOther so _
      have t2 : Turn (fun b => b = O ∨ b = S) w ((((wr.drewN nq).setCell ⟨S, i * 3, none⟩ (.int .i64 x)).setCell ⟨S, i * 3 + 1, none⟩ (.int .i64 p)).setCell ⟨S, i * 3 + 2, none⟩ (.int .u32 cur)) := (((((hT.drewN nq).mono (fun _ _ y => y.elim)).setCell (.inr (.inr rfl)) _).setCell (.inr (.inr rfl)) _).setCell (.inr (.inr rfl)) _)
      generalize (((wr.drewN nq).setCell ⟨S, i * 3, none⟩ (.int .i64 x)).setCell ⟨S, i * 3 + 1, none⟩ (.int .i64 p)).setCell ⟨S, i * 3 + 2, none⟩ (.int .u32 cur) = w3 at r1 r2 t2 ⊢
      have y3' : w3.cell? ⟨O, 3, none⟩ = some (.int .i64 u) := by rw [HU.out]; exact r2.cell (by omega)
      have fo' : ∀ j, w3.frozen? ⟨O, j, none⟩ = false := fun j => r2.frozen j
      have R1 : Hid (w3.rowIs S 47 (n * 3) (slF (upd nd i x) (upd pl i p) (upd st i cur))) := r1
      have R2 : Hid (w3.rowIs O 37 9 (reF (.slice (some ⟨S, 0, none⟩) n n) (64 - k) cur E.length v4 v5 v6 v7 v8)) := r2
      clear r1 r2 y0 y2 y3 z0 z1 z2 fs fo
      go_wp2
      go_ret2
      have hlen : (E ++ [(x, p)]).length = u + 1 := by rw [List.length_append, ← HU.out]; rfl
      have hfree : st ((hm k x + d) % n) ≠ cur := by rw [← HI.out]; exact hlive
      have hins := H2.out.inv.insert x p (by omega) d hd HW.out hfree
      rw [← HI.out] at hins
      refine ⟨upd nd i x, upd pl i p, upd st i cur, E ++ [(x, p)], p, false, rfl, t2.setCell (.inr (.inl rfl)) _, ⟨?_, ?_, HT.out.nk, HT.out.k4, HT.out.k15, hins, ?_, HT.out.c0, HT.out.c1, by rw [hlen]; exact hu⟩, .inr ⟨rfl, rfl, H2.out.inv.absent x d HW.out hfree, rfl⟩⟩
      · rw [hlen]
        exact re_used R2.out (u + 1)
      · exact R1.out.setOther (Ne.symm so) _
      · intro j hj
        by_cases e : j = i
        · rw [e, upd_same]; exact Nat.le_refl _
        · rw [upd_other _ _ e]; exact HT.out.le j hj
end Go.Proofs.YbulkegnmDoor
