import Derived.Test.YbulkegnmDoorL1
namespace Go.Proofs.YbulkegnmDoor
open Go Go.RowKit

theorem NN_le (N : List Int) (z : Nat → Int) : ∀ m, N.length ≤ (NN N z m).length
  | 0 => Nat.le_refl _
  | m + 1 => by
    have := NN_le N z m
    rw [NN, addNode]
    split
    · exact this
    · rw [List.length_append]; omega
theorem NN_head (root : Int) (z : Nat → Int) : ∀ m, ∃ t, NN [root] z m = root :: t
  | 0 => ⟨[], rfl⟩
  | m + 1 => by
    obtain ⟨t, h⟩ := NN_head root z m
    rw [NN, addNode, h]
    split
    · exact ⟨t, rfl⟩
    · exact ⟨t ++ [z m], rfl⟩
theorem place_root (root : Int) (z : Nat → Int) (m : Nat) (x : Int) : ((placeIn (NN [root] z m) x : Int) == 0) = (x == root) := by
  obtain ⟨t, h⟩ := NN_head root z m
  rw [h, placeIn, List.idxOf_cons]
  by_cases e : x = root
  · subst e; simp
  · have e1 : (root == x) = false := by simp; exact fun h => e h.symm
    have e2 : (x == root) = false := by simp [e]
    rw [e1, e2]
    simp
    omega
theorem idx_first {N : List Int} {x : Int} {j : Nat} (hj : j < N.length) (h1 : ∀ i, i < j → N.getD i 0 ≠ x) (h2 : N.getD j 0 = x) : x ∈ N ∧ placeIn N x = j := by
  induction N generalizing j with
  | nil => simp at hj
  | cons a N ih =>
    cases j with
    | zero =>
      have : a = x := by simpa using h2
      subst this
      exact ⟨by simp, by simp [placeIn]⟩
    | succ j =>
      have hne : a ≠ x := by simpa using h1 0 (by omega)
      obtain ⟨e1, e2⟩ := ih (j := j) (by simpa using hj) (fun i hi => by simpa using h1 (i + 1) (by omega)) (by simpa using h2)
      refine ⟨List.mem_cons_of_mem _ e1, ?_⟩
      rw [placeIn, List.idxOf_cons]
      have : (a == x) = false := by simp [hne]
      rw [this]
      simp [placeIn] at e2
      simp [e2]
theorem idx_none {N : List Int} {x : Int} (h1 : ∀ i, i < N.length → N.getD i 0 ≠ x) : x ∉ N := by
  intro hx
  obtain ⟨i, hi, e⟩ := List.mem_iff_getElem.1 hx
  refine h1 i hi ?_
  rw [List.getD_eq_getElem?_getD, List.getElem?_eq_getElem hi]
  simpa using e
/-- A reach between two searches. -/
def SqE (w : World) (M : Nat → Prop) (O : Nat) : Prop := ∃ a n sh cur used nd pl st aN nN cN fN aX nX cX fX aA nA cA fA vR vI, Sq w M O a n sh cur used nd pl st aN nN cN fN aX nX cX fX aA nA cA fA vR vI
/-- A search under way, its sizes bounded by T arcs and m steps. -/
def SrE (w : World) (M : Nat → Prop) (O m T : Nat) : Prop := ∃ cur S n k nd pl st N A gN cN aX nX cX fX aA cA, ∃ R : Nat, ∃ b, Sr w M O S n k cur nd pl st (enumE N) N A gN cN aX nX cX fX aA cA (R : Int) b ∧ N.Nodup ∧ nX ≤ N.length ∧ N.length ≤ 1 + T ∧ A.length ≤ T ∧ R ≤ m + T
def Lp (w : World) (M : Nat → Prop) (O m T : Nat) (started : Bool) : Prop := (started = false ∧ SqE w M O) ∨ (started = true ∧ SrE w M O m T)
theorem SrE.sq {w : World} {M : Nat → Prop} {O m T : Nat} (h : SrE w M O m T) : SqE w M O := by
  obtain ⟨cur, S, n, k, nd, pl, st, N, A, gN, cN, aX, nX, cX, fX, aA, cA, R, b, h, _⟩ := h
  exact ⟨_, _, _, _, _, _, _, _, _, _, _, _, _, _, _, _, _, _, _, _, _, _, h.sq⟩
theorem Lp.sq {w : World} {M : Nat → Prop} {O m T : Nat} {s : Bool} (h : Lp w M O m T s) : SqE w M O := by
  rcases h with ⟨_, h⟩ | ⟨_, h⟩
  · exact h
  · exact h.sq
theorem Sq.turn {w w' : World} {M : Nat → Prop} {O : Nat} {a : Option Addr} {n sh cur used : Nat} {nd pl : Nat → Int} {st : Nat → Nat} {aN : Option Addr} {nN cN : Nat} {fN : Nat → Value} {aX : Option Addr} {nX cX : Nat} {fX : Nat → Value} {aA : Option Addr} {nA cA : Nat} {fA : Nat → Value} {vR vI : Value}
    (h : Sq w M O a n sh cur used nd pl st aN nN cN fN aX nX cX fX aA nA cA fA vR vI) (t : Turn (fun _ => False) w w') : Sq w' M O a n sh cur used nd pl st aN nN cN fN aX nX cX fX aA nA cA fA vR vI :=
  ⟨⟨t.row h.tq.o (fun y => y), by
    rcases h.tq.s with h1 | ⟨S, k, e, hs, h1⟩
    · exact .inl h1
    · exact .inr ⟨S, k, e, t.row hs (fun y => y), h1⟩, h.tq.c1⟩, h.sn.turn t (fun _ _ y => y), h.sx.turn t (fun _ _ y => y), h.sa.turn t (fun _ _ y => y), h.na, h.mO, h.mS, h.mN, h.mX, h.mA⟩
theorem SqE.turn {w w' : World} {M : Nat → Prop} {O : Nat} (h : SqE w M O) (t : Turn (fun _ => False) w w') : SqE w' M O := by
  obtain ⟨a, n, sh, cur, used, nd, pl, st, aN, nN, cN, fN, aX, nX, cX, fX, aA, nA, cA, fA, vR, vI, h⟩ := h
  exact ⟨_, _, _, _, _, _, _, _, _, _, _, _, _, _, _, _, _, _, _, _, _, _, h.turn t⟩
theorem SrE.turn {w w' : World} {M : Nat → Prop} {O m T : Nat} (h : SrE w M O m T) (t : Turn (fun _ => False) w w') : SrE w' M O m T := by
  obtain ⟨cur, S, n, k, nd, pl, st, N, A, gN, cN, aX, nX, cX, fX, aA, cA, R, b, h, h2⟩ := h
  exact ⟨cur, S, n, k, nd, pl, st, N, A, gN, cN, aX, nX, cX, fX, aA, cA, R, b, h.turn t, h2⟩
theorem start_E (M : Nat → Prop) (O : Nat) (root : Int) (aW : Option Addr) (lw cw : Nat) (z : Nat → Int) (w : World) (h : SqE w M O) (up : ∀ c, w.heap.size ≤ c → M c) (hW : Reads w aW lw z) (hM : ∀ b o, 0 < lw → aW = some ⟨b, o, none⟩ → ¬ M b) (hz : TzOk w) (h8 : ¬ M 8) (b1 : lw ≤ 4500) (m T : Nat) (hT : lw ≤ T) (hm : 1 ≤ m) :
    Calls Ybad.prog 11 #[.pointer (some ⟨O, 0, none⟩), .int .i64 root, .slice aW lw cw] w fun e w' => e = .returned (.tuple #[]) ∧ Turn M w w' ∧ SrE w' M O m T := by
  obtain ⟨a, n, sh, cur, used, nd, pl, st, aN, nN, cN, fN, aX, nX, cX, fX, aA, nA, cA, fA, vR, vI, h⟩ := h
  refine (start_any M O a n sh cur used nd pl st aN nN cN fN aX nX cX fX aA nA cA fA vR vI root aW lw cw z w h up (fun hl => ?_) hz h8 b1).mono ?_
  · obtain ⟨b, o, e, hc⟩ := hW hl
    exact ⟨b, o, e, hM b o hl e, hc⟩
  · rintro e w' ⟨S', n', k', nd', pl', st', gN', cN2, gX', cX', fX', aA', cA', rfl, t, h', _⟩
    have h1 := NN_length [root] z lw
    have h2 := NN_pos (N := [root]) (by simp) z lw
    refine ⟨rfl, t, _, _, _, _, _, _, _, _, _, _, _, _, _, _, _, _, _, _, _, h', NN_nodup (by simp) z lw, ?_, ?_, ?_, ?_⟩
    · omega
    · simp at h1; omega
    · rw [PP_length]; exact hT
    · omega

theorem Sq.narrow {w : World} {M M' : Nat → Prop} {O : Nat} {a : Option Addr} {n sh cur used : Nat} {nd pl : Nat → Int} {st : Nat → Nat} {aN : Option Addr} {nN cN : Nat} {fN : Nat → Value} {aX : Option Addr} {nX cX : Nat} {fX : Nat → Value} {aA : Option Addr} {nA cA : Nat} {fA : Nat → Value} {vR vI : Value}
    (h : Sq w M O a n sh cur used nd pl st aN nN cN fN aX nX cX fX aA nA cA fA vR vI) (hm : ∀ b, M b → b < w.heap.size → M' b) : Sq w M' O a n sh cur used nd pl st aN nN cN fN aX nX cX fX aA nA cA fA vR vI :=
  ⟨h.tq, h.sn, h.sx, h.sa, h.na, hm _ h.mO h.tq.o.lt, fun g e => hm g (h.mS g e) (by
    rcases h.tq.s with ⟨e2, _⟩ | ⟨S, k, e2, hs, _⟩
    · rw [e2] at e; cases e
    · rw [e2] at e; cases e; exact hs.lt), fun g e => hm g (h.mN g e) (h.sn.lt g e), fun g e => hm g (h.mX g e) (h.sx.lt g e), fun g e => hm g (h.mA g e) (h.sa.lt g e)⟩
def ints (L : List Int) : Nat → Value := fun i => .int .i64 (L.getD i 0)
/-- The law's own nodes and places, in memory made since w5. -/
structure Nd (w5 wr : World) (N P : List Int) (g18 c18 g19 c19 : Nat) : Prop where
  sn : SlI wr 3 g18 N.length c18 (ints N)
  sp : SlI wr 3 g19 P.length c19 (ints P)
  ne : g18 ≠ g19
  l18 : w5.heap.size ≤ g18
  l19 : w5.heap.size ≤ g19
  tn : Turn (fun _ => False) w5 wr
theorem SlI.reads {w : World} {g n cap : Nat} {L : List Int} (h : SlI w 3 g n cap (ints L)) : Reads w (some ⟨g, 0, none⟩) n (fun i => L.getD i 0) := fun _ => ⟨g, 0, rfl, fun j hj => by rw [Nat.zero_add]; exact h.cell hj⟩
theorem OwnI.reads {w : World} {a : Option Addr} {n cap : Nat} {L : List Int} (h : OwnI w 3 a n cap (ints L)) : Reads w a n (fun i => L.getD i 0) := by
  intro hn
  rcases h with ⟨_, e, _⟩ | ⟨g, e, h⟩
  · omega
  · rw [e]; exact h.reads hn
theorem pow_and {k n : Nat} (hn : n = 2 ^ k) (hk : k ≤ 15) : bits .and .i64 (n : Int) ((n : Int) - 1) = 0 := by
  have h4 : 2 ^ k ≤ 2 ^ 15 := Nat.pow_le_pow_right (by omega) hk
  have h5 : (2 : Nat) ^ 15 = 32768 := by decide
  have h6 : 0 < 2 ^ k := Nat.two_pow_pos _
  rw [show (n : Int) - 1 = ((n - 1 : Nat) : Int) by omega, bits_and_i64_nat _ _ (by omega) (by omega), hn, Nat.and_two_pow_sub_one_eq_mod, Nat.mod_self]
  rfl
/-- The places met among the live ones of the first i slots. -/
def sv (c : Nat) (pl : Nat → Int) (st : Nat → Nat) : Nat → Nat → Bool
  | 0, _ => false
  | i + 1, p => sv c pl st i p || (st i == c && pl i == (p : Int))
theorem sv_met {c : Nat} {pl : Nat → Int} {st : Nat → Nat} : ∀ {i p : Nat}, sv c pl st i p = true → ∃ j, j < i ∧ st j = c ∧ pl j = (p : Int)
  | 0, p, h => by cases h
  | i + 1, p, h => by
    rw [sv, Bool.or_eq_true] at h
    rcases h with h | h
    · obtain ⟨j, h1, h2, h3⟩ := sv_met h
      exact ⟨j, by omega, h2, h3⟩
    · simp at h
      exact ⟨i, by omega, h.1, h.2⟩
/-- A live slot: its place, its node there, and that place not met before. -/
theorem slot_ok {n k c : Nat} {nd pl : Nat → Int} {st : Nat → Nat} {N : List Int} (t : TInv n (hm k) c nd pl st (enumE N)) {i : Nat} (hi : i < n) (hs : st i = c) : ∃ p : Nat, p < N.length ∧ pl i = (p : Int) ∧ N.getD p 0 = nd i ∧ sv c pl st i p = false := by
  obtain ⟨p, h1, h2⟩ := mem_enumE.1 (t.inE i hi hs)
  obtain ⟨hp, h3⟩ := List.getElem?_eq_some_iff.1 h1
  refine ⟨p, hp, h2, by rw [List.getD_eq_getElem?_getD, h1]; rfl, ?_⟩
  cases hv : sv c pl st i p with
  | false => rfl
  | true =>
    obtain ⟨j, hj, hjs, hjp⟩ := sv_met hv
    obtain ⟨p', h4, h5⟩ := mem_enumE.1 (t.inE j (by omega) hjs)
    have : p' = p := by omega
    subst this
    rw [h1] at h4
    have := t.one j i (by omega) hi hjs hs (Option.some.inj h4).symm
    omega
/-- The reach as the law makes it. -/
theorem sq_new (w : World) (stamp : Nat) (hst : stamp < 4294967296) : SqE (w.alloc (.cells #[.slice none 0 0, .int .u64 0, .int .u32 (stamp : Int), .int .i64 0, .slice none 0 0, .slice none 0 0, .slice none 0 0, .int .i64 0, .bool false] 37)) (fun b => w.heap.size ≤ b) w.heap.size := by
  refine ⟨none, 0, 0, stamp, 0, fun _ => 0, fun _ => 0, fun _ => 0, none, 0, 0, fun _ => .int .i64 0, none, 0, 0, fun _ => .int .i64 0, none, 0, 0, fun _ => .int .i64 0, .int .i64 0, .bool false, ⟨⟨⟨_, heap_alloc_new w _, rfl, fun i hi => ?_⟩, .inl ⟨rfl, rfl⟩, hst⟩, .inl ⟨rfl, rfl, rfl⟩, .inl ⟨rfl, rfl, rfl⟩, .inl ⟨rfl, rfl, rfl⟩, (fun g e => by cases e), Nat.le_refl _, (fun g e => by cases e), (fun g e => by cases e), (fun g e => by cases e), (fun g e => by cases e)⟩⟩
  rcases nine hi with rfl | rfl | rfl | rfl | rfl | rfl | rfl | rfl | rfl <;> rfl

set_option maxHeartbeats 4000000 in
set_option maxRecDepth 100000 in
theorem law_main (aS : Option Addr) (ls cs : Nat) (sr : Nat → Int) (sa : Nat → Option Addr) (sl sc : Nat → Nat) (sz : Nat → Nat → Int) (sb : Nat → Bool) (root : Int) (aF : Option Addr) (lf cf : Nat) (z : Nat → Int) (stamp : Nat) (w : World)
    (h : Scr w aS ls sr sa sl sc sz sb) (hls : ls ≤ 64) (hlf : lf ≤ 17592186044416) (hsl : ∀ j, j < ls → sl j ≤ 17592186044416) (hF : Reads w aF lf z) (hz : TzOk w) (hst : stamp < 4294967296) :
    Calls Ybad.prog 4 #[.slice aS ls cs, .int .i64 root, .slice aF lf cf, .int .u32 (stamp : Int)] w fun e w' => e = .returned (.bool true) ∧ Below w.heap.size w w' := by
  have htl : ∀ m, m ≤ ls → tot lf sl m ≤ 1143492092887040 := by
    intro m hm
    have h1 := tot_le lf (fun j => if j < ls then sl j else 0) hlf (fun j _ => by split; exact hsl j (by assumption); omega) m (by omega)
    have h2 : ∀ k, k ≤ ls → tot lf (fun j => if j < ls then sl j else 0) k = tot lf sl k := by
      intro k
      induction k with
      | zero => intro _; rfl
      | succ k ih => intro hk; rw [tot, tot, ih (by omega), if_pos (by omega)]
    rw [h2 m hm] at h1
    omega
  have HS : Hid (Scr w aS ls sr sa sl sc sz sb) := h
  have HT : Hid (∀ m, m ≤ ls → tot lf sl m ≤ 1143492092887040) := htl
  have HF : Hid (Reads w aF lf z) := hF
  have HZ : Hid (TzOk w) := hz
  have HSL : Hid (∀ j, j < ls → sl j ≤ 17592186044416) := hsl
  have hd64 : decide ((64 : Int) < (ls : Int)) = false := by simp; omega
  clear h htl hF hz hsl
  go_enter Ybad.func4, Ybad.ntmps4
  go_upto_block 0 with fail
  go_cut [9, 10, 38] from 39 to 49 (fun s9 _ _ wx => s9 = .int .i64 (tot lf sl ls : Nat) ∧ wx = w)
  case first =>
    go_wp2_with fail
    go_loopg [9, 38] ls (fun gk s9 s38 wr => ∃ m : Nat, m ≤ ls ∧ gk = ls - m ∧ s9 = .int .i64 (tot lf sl m : Nat) ∧ s38 = .int .i64 m ∧ wr = w)
    case atStart => exact ⟨0, by omega, rfl, rfl, rfl, rfl⟩
    case round =>
      obtain ⟨m, hmn, hgk, rfl, rfl, rfl⟩ := hrel
      by_cases hlt : m < ls
      · obtain ⟨b, o, rfl, hc⟩ := HS.out.at_ (by omega)
        obtain ⟨_, c1, _⟩ := hc m hlt
        have i0 : (0 : Int) ≤ (m : Int) := by omega
        have i1 : (m : Int) < (ls : Int) := by omega
        have t1 := HT.out m (by omega)
        have t2 := HSL.out m hlt
        have e1 : Hid (tot lf sl (m + 1) = tot lf sl m + sl m) := rfl
        clear hc
        generalize tot lf sl m = T at t1 e1
        go_wp2_with fail
        go_roundg (ls - (m + 1))
        case measure => omega
        case rel => exact ⟨m + 1, by omega, rfl, by rw [e1.out]; go_num, by go_num, rfl⟩
      · obtain rfl : m = ls := by omega
        go_wp2_with fail
        go_meet
        case rel => exact ⟨rfl, rfl⟩
  case rest =>
    obtain ⟨rfl, hw⟩ := hcut
    rw [hw]
    clear hw
    by_cases hbig : 4096 < tot lf sl ls
    · have hd1 : decide ((4096 : Int) < ((tot lf sl ls : Nat) : Int)) = true := by simp; omega
      generalize tot lf sl ls = T at hd1
      go_wp2_with fail
      go_ret
      exact ⟨rfl, Below.refl _ _⟩
    · have hd1 : decide ((4096 : Int) < ((tot lf sl ls : Nat) : Int)) = false := by simp; omega
      have HTs : Hid (∀ m, m ≤ ls → tot lf sl m ≤ 4096) := fun m hm => Nat.le_trans (tot_mono lf sl hm) (by omega)
      have hlf2 : lf ≤ 4096 := Nat.le_trans (tot_mono lf sl (Nat.zero_le ls)) (by omega)
      generalize tot lf sl ls = T at hd1
      go_upto_block 2 with fail
      have t0 : Turn (fun b => w.heap.size ≤ b) w (w.alloc (.cells #[.slice none 0 0, .int .u64 0, .int .u32 (stamp : Int), .int .i64 0, .slice none 0 0, .slice none 0 0, .slice none 0 0, .int .i64 0, .bool false] 37)) := (Turn.refl _ w).alloc _
      have q0 := sq_new w stamp hst
      generalize w.alloc (.cells #[.slice none 0 0, .int .u64 0, .int .u32 (stamp : Int), .int .i64 0, .slice none 0 0, .slice none 0 0, .slice none 0 0, .int .i64 0, .bool false] 37) = w1 at t0 q0 ⊢
      obtain ⟨M, hM⟩ : ∃ M : Nat → Prop, M = fun b => w.heap.size ≤ b := ⟨_, rfl⟩
      have HM : Hid (M = fun b => w.heap.size ≤ b) := hM
      rw [← hM] at t0 q0
      have h8 : ¬ M 8 := by
        rw [hM]
        have h1 := cell_below (HZ.out 4 (by omega) (by omega))
        have h2 : (8 : Nat) < w.heap.size := h1
        show ¬ (w.heap.size ≤ 8)
        omega
      have hold : ∀ {a : Option Addr} {l : Nat} {zz : Nat → Int}, Reads w a l zz → ∀ b o, 0 < l → a = some ⟨b, o, none⟩ → ¬ M b := by
        intro a l zz hr b o hl e
        obtain ⟨b', o', e', hc⟩ := hr hl
        have h1 := cell_below (hc 0 hl)
        rw [e'] at e
        cases e
        rw [hM]
        have h2 : b < w.heap.size := h1
        show ¬ (w.heap.size ≤ b)
        omega
      have HOld : Hid (∀ {a : Option Addr} {l : Nat} {zz : Nat → Int}, Reads w a l zz → ∀ b o, 0 < l → a = some ⟨b, o, none⟩ → ¬ M b) := hold
      have T0 : Hid (Turn M w w1) := t0
      have Q0 : Hid (SqE w1 M w.heap.size) := q0
      clear hM hold t0 q0
      go_cut [12, 13, 14, 15, 63] from 64 to 91 (fun _ _ _ _ _ wx => Hid (Turn M w wx) ∧ Hid (SqE wx M w.heap.size))
      case first =>
        go_wp2_with fail
        go_loopg [12, 63] ls (fun gk s12 s63 wr => ∃ (m : Nat) (sd : Bool), m ≤ ls ∧ gk = ls - m ∧ s12 = .bool sd ∧ s63 = .int .i64 m ∧ Hid (Turn M w wr) ∧ Hid (Lp wr M w.heap.size m (tot lf sl m) sd))
        case atStart => exact ⟨0, false, by omega, rfl, rfl, rfl, T0, .inl ⟨rfl, Q0.out⟩⟩
        case round =>
          obtain ⟨m, sd, hmn, hgk, rfl, rfl, HTr, HL⟩ := hrel
          by_cases hlt : m < ls
          · obtain ⟨b, o, rfl, hc⟩ := HS.out.at_ (by omega)
            obtain ⟨c0, c1, c2⟩ := hc m hlt
            have hbM : ¬ M b := by
              rw [HM.out]
              have h2 : b < w.heap.size := cell_below c0
              show ¬ (w.heap.size ≤ b)
              omega
            have c0 := HTr.out.cell c0 hbM
            have c1 := HTr.out.cell c1 hbM
            have c2 := HTr.out.cell c2 hbM
            have i0 : (0 : Int) ≤ (m : Int) := by omega
            have i1 : (m : Int) < (ls : Int) := by omega
            clear hc
            go_upto_region 15 with fail
            have t2 : Turn (fun _ => False) wr (wr.alloc (.cells #[.int .i64 (sr m), .slice (sa m) (sl m) (sc m), .bool (sb m)] 29)) := (Turn.refl _ _).alloc _
            have v0 : (wr.alloc (.cells #[.int .i64 (sr m), .slice (sa m) (sl m) (sc m), .bool (sb m)] 29)).cell? ⟨wr.heap.size, 0, none⟩ = some (.int .i64 (sr m)) := by rw [cell_of_row _ _ _ _ _ _ (heap_alloc_new wr _)]; rfl
            have v1 : (wr.alloc (.cells #[.int .i64 (sr m), .slice (sa m) (sl m) (sc m), .bool (sb m)] 29)).cell? ⟨wr.heap.size, 1, none⟩ = some (.slice (sa m) (sl m) (sc m)) := by rw [cell_of_row _ _ _ _ _ _ (heap_alloc_new wr _)]; rfl
            have v2 : (wr.alloc (.cells #[.int .i64 (sr m), .slice (sa m) (sl m) (sc m), .bool (sb m)] 29)).cell? ⟨wr.heap.size, 2, none⟩ = some (.bool (sb m)) := by rw [cell_of_row _ _ _ _ _ _ (heap_alloc_new wr _)]; rfl
            generalize wr.alloc (.cells #[.int .i64 (sr m), .slice (sa m) (sl m) (sc m), .bool (sb m)] 29) = w2 at t2 v0 v1 v2 ⊢
            have T2 : Hid (Turn M w w2) := HTr.out.trans t2 (fun _ _ y => y.elim)
            have L2 : Lp w2 M w.heap.size m (tot lf sl m) sd := by
              rcases HL.out with ⟨e, hq⟩ | ⟨e, hq⟩
              · exact .inl ⟨e, hq.turn t2⟩
              · exact .inr ⟨e, hq.turn t2⟩
            have hT1 := HTs.out (m + 1) (by omega)
            have eT : tot lf sl (m + 1) = tot lf sl m + sl m := rfl
            have hup : ∀ c, w2.heap.size ≤ c → M c := fun c hc => by
              rw [HM.out]
              have := T2.out.size
              show w.heap.size ≤ c
              omega
            have hrd : Reads w (sa m) (sl m) (sz m) := HS.out.rd m hlt
            have hrd2 : Reads w2 (sa m) (sl m) (sz m) := by
              intro hl
              obtain ⟨b', o', e', hc'⟩ := hrd hl
              exact ⟨b', o', e', fun j hj => T2.out.cell (hc' j hj) (HOld.out hrd b' o' hl e')⟩
            have hz2 : TzOk w2 := HZ.out.turn T2.out h8
            have HSt : Hid (∀ W, Turn (fun _ => False) w2 W → Calls Ybad.prog 11 #[.pointer (some ⟨w.heap.size, 0, none⟩), .int .i64 (sr m), .slice (sa m) (sl m) (sc m)] W fun e w' => e = .returned (.tuple #[]) ∧ Turn M W w' ∧ SrE w' M w.heap.size (m + 1) (tot lf sl (m + 1))) := fun W t =>
              start_E M w.heap.size (sr m) (sa m) (sl m) (sc m) (sz m) W (L2.sq.turn t) (fun c hc => hup c (Nat.le_trans t.size hc)) (hrd2.turn t (fun _ _ _ y => y)) (fun b' o' hl e' => HOld.out hrd b' o' hl e') (hz2.turn t (fun y => y)) h8 (by omega) (m + 1) _ (by omega) (by omega)
            have HSp : Hid (∀ cur S n k nd pl st N A gN cN aX nX cX fX aA cA (R : Nat) b, Sr w2 M w.heap.size S n k cur nd pl st (enumE N) N A gN cN aX nX cX fX aA cA (R : Int) b → N.Nodup → nX < N.length → N.length ≤ 1 + tot lf sl m → A.length ≤ tot lf sl m → R ≤ m + tot lf sl m →
                ∀ W V, Turn (fun _ => False) w2 W → W.cell? ⟨V, 0, none⟩ = some (.slice (sa m) (sl m) (sc m)) → Calls Ybad.prog 9 #[.pointer (some ⟨w.heap.size, 0, none⟩), .func (.func 10) #[] #[.pointer (some ⟨V, 0, none⟩)]] W fun e w' => e = .returned (.tuple #[]) ∧ Turn M W w' ∧ SrE w' M w.heap.size (m + 1) (tot lf sl (m + 1))) := by
              intro cur S n k nd pl st N A gN cN aX nX cX fX aA cA R b hS hnod hx hn1 ha1 hr1 W V t hV
              refine (step_any M w.heap.size S n k cur nd pl st N A gN cN aX nX cX fX aA cA R b V (sa m) (sl m) (sc m) (sz m) W (hS.turn t) hnod (fun c hc => hup c (Nat.le_trans t.size hc)) hV (fun hl => ?_) (hz2.turn t (fun y => y)) h8 (by omega) (by omega) hx (by omega)).mono ?_
              · obtain ⟨b', o', e', hc'⟩ := hrd2 hl
                exact ⟨b', o', e', HOld.out hrd b' o' hl e', fun j hj => t.cell (hc' j hj) (fun y => y)⟩
              · rintro e w' ⟨S', n', k', nd', pl', st', gN', cN', gX', cX', fX', aA', cA', rfl, t', h'⟩
                have g1 := NN_length N (sz m) (sl m)
                have g2 : N.length ≤ (NN N (sz m) (sl m)).length := NN_le N (sz m) (sl m)
                refine ⟨rfl, t', _, _, _, _, _, _, _, _, _, _, _, _, _, _, _, _, _, _, _, h', NN_nodup hnod _ _, by omega, by omega, ?_, by omega⟩
                rw [List.length_append, PP_length]
                omega
            clear hrd hrd2 hz2 hup eT hT1 c0 c1 c2
            have T2s := T2.out.size
            by_cases hsb : sb m = true ∧ sd = true
            · obtain ⟨e1, rfl⟩ := hsb
              rw [e1] at v2
              obtain ⟨cur, S, n, k, nd, pl, st, N, A, gN, cN, aX, nX, cX, fX, aA, cA, R, bb, hS, hnod, hx, hn1, ha1, hr1⟩ : SrE w2 M w.heap.size m (tot lf sl m) := by
                rcases L2 with ⟨e, _⟩ | ⟨_, hq⟩
                · cases e
                · exact hq
              have hTm := HTs.out m (by omega)
              have hdn := done_any w.heap.size gN N.length cN aX nX cX w2 (hS.tb.o.cell (by omega)) (hS.tb.o.cell (by omega)) (by omega) (by omega)
              by_cases hdone : N.length = nX
              · rw [decide_eq_true hdone] at hdn
                clear L2 hS hTm hn1 ha1 hr1 hx
                go_upto_region 18 with (go_at_call 8; refine hdn.mono ?_; rintro e w3 ⟨rfl, t3⟩)
                have v0' := t3.cell v0 (fun y => y)
                have v1' := t3.cell v1 (fun y => y)
                have hst3 := HSt.out w3 t3
                clear v0 v1 v2 hdn
                go_wp2_with (go_at_call 11; refine hst3.mono ?_; rintro e w4 ⟨rfl, t4, hR4⟩)
                go_roundg (ls - (m + 1))
                case measure => omega
                case rel => exact ⟨m + 1, true, by omega, rfl, rfl, by go_num, (T2.out.trans t3 (fun _ _ y => y.elim)).trans t4 (fun _ _ y => y), .inr ⟨rfl, hR4⟩⟩
              · rw [decide_eq_false hdone] at hdn
                have hsp := HSp.out cur S n k nd pl st N A gN cN aX nX cX fX aA cA R bb hS hnod (by omega) hn1 ha1 hr1
                clear L2 hS hTm hn1 ha1 hr1 hx
                go_upto_region 17 with (go_at_call 8; refine hdn.mono ?_; rintro e w3 ⟨rfl, t3⟩; have v1' := t3.cell v1 (fun y => y))
                have t3a : Turn (fun _ => False) w2 (w3.alloc (.cells #[.slice (sa m) (sl m) (sc m)] 26)) := t3.alloc _
                have vA : (w3.alloc (.cells #[.slice (sa m) (sl m) (sc m)] 26)).cell? ⟨w3.heap.size, 0, none⟩ = some (.slice (sa m) (sl m) (sc m)) := by rw [cell_of_row _ _ _ _ _ _ (heap_alloc_new w3 _)]; rfl
                have hsp3 := hsp _ w3.heap.size t3a vA
                clear v0 v1 v2 hdn v1' hsp vA
                generalize w3.alloc (.cells #[.slice (sa m) (sl m) (sc m)] 26) = w3b at t3a hsp3 ⊢
                go_wp2_with (go_at_call 9; refine hsp3.mono ?_; rintro e w4 ⟨rfl, t4, hR4⟩)
                go_roundg (ls - (m + 1))
                case measure => omega
                case rel => exact ⟨m + 1, true, by omega, rfl, rfl, by go_num, (T2.out.trans t3a (fun _ _ y => y.elim)).trans t4 (fun _ _ y => y), .inr ⟨rfl, hR4⟩⟩
            · have hst2 := HSt.out w2 (Turn.refl _ _)
              clear L2
              cases hsm : sb m with
              | false =>
                rw [hsm] at v2
                go_wp2_with (go_at_call 11; refine hst2.mono ?_; rintro e w4 ⟨rfl, t4, hR4⟩)
                go_roundg (ls - (m + 1))
                case measure => omega
                case rel => exact ⟨m + 1, true, by omega, rfl, rfl, by go_num, T2.out.trans t4 (fun _ _ y => y), .inr ⟨rfl, hR4⟩⟩
              | true =>
                rw [hsm] at v2
                obtain rfl : sd = false := by
                  cases sd with
                  | false => rfl
                  | true => exact absurd ⟨hsm, rfl⟩ hsb
                go_wp2_with (go_at_call 11; refine hst2.mono ?_; rintro e w4 ⟨rfl, t4, hR4⟩)
                go_roundg (ls - (m + 1))
                case measure => omega
                case rel => exact ⟨m + 1, true, by omega, rfl, rfl, by go_num, T2.out.trans t4 (fun _ _ y => y), .inr ⟨rfl, hR4⟩⟩
          · go_wp2_with fail
            go_meet
            case rel => exact ⟨HTr, HL.out.sq⟩
      case rest =>
        obtain ⟨HTc, HQc⟩ := hcut
        clear T0 Q0
        have hrw : Reads wc aF lf z := by
          intro hl
          obtain ⟨b', o', e', hc'⟩ := HF.out hl
          exact ⟨b', o', e', fun j hj => HTc.out.cell (hc' j hj) (HOld.out HF.out b' o' hl e')⟩
        have hcl := clone_any aF lf cf z wc hrw (by omega)
        obtain ⟨a, n, sh, cur, used, nd, pl, st, aN, nN, cN, fN, aX, nX, cX, fX, aA, nA, cA, fA, vR, vI, hQ⟩ := HQc.out
        have HQ : Hid (Sq wc M w.heap.size a n sh cur used nd pl st aN nN cN fN aX nX cX fX aA nA cA fA vR vI) := hQ
        clear hQ HQc
        go_upto_region 22 with (go_at_call 12; refine hcl.mono ?_; rintro e w3 ⟨aK, cK, rfl, t3, rK, lK⟩)
        have hQ3 := HQ.out.turn t3
        have T3 : Turn M w w3 := HTc.out.trans t3 (fun _ _ y => y.elim)
        have x2 : w3.cell? ⟨w.heap.size, 2, none⟩ = some (.int .u32 (cur : Int)) := hQ3.tq.o.cell (by omega)
        have hcw : w.heap.size ≤ wc.heap.size := HTc.out.size
        have hc3 : wc.heap.size ≤ w3.heap.size := t3.size
        obtain ⟨M', hM'⟩ : ∃ M' : Nat → Prop, M' = fun b => (M b ∧ b < wc.heap.size) ∨ w3.heap.size ≤ b := ⟨_, rfl⟩
        have hQ4 : Sq w3 M' w.heap.size a n sh cur used nd pl st aN nN cN fN aX nX cX fX aA nA cA fA vR vI := by
          have := HQ.out.narrow (M' := M') (fun b hb hl => by rw [hM']; exact .inl ⟨hb, hl⟩)
          exact this.turn t3
        have hMM : ∀ b, b < w.heap.size → ¬ M' b := by
          intro b hb
          rw [hM', HM.out]
          show ¬ ((w.heap.size ≤ b ∧ b < wc.heap.size) ∨ w3.heap.size ≤ b)
          omega
        have hK' : ∀ b o, 0 < lf → aK = some ⟨b, o, none⟩ → ¬ M' b := by
          intro b o hl e
          obtain ⟨b', o', e', hc'⟩ := rK hl
          have h1 : b' < w3.heap.size := cell_below (hc' 0 hl)
          rw [e'] at e
          cases e
          have := lK b o e'
          rw [hM']
          show ¬ ((M b ∧ b < wc.heap.size) ∨ w3.heap.size ≤ b)
          omega
        have hrF : ∀ b o, 0 < lf → aF = some ⟨b, o, none⟩ → ¬ M' b := by
          intro b o hl e
          obtain ⟨b', o', e', hc'⟩ := HF.out hl
          have h1 : b' < w.heap.size := cell_below (hc' 0 hl)
          rw [e'] at e
          cases e
          exact hMM b h1
        have hr3 : Reads w3 aF lf z := hrw.turn t3 (fun _ _ _ y => y)
        have hz3 : TzOk w3 := HZ.out.turn T3 h8
        have h8' : ¬ M' 8 := hMM 8 (by have h2 : (8 : Nat) < w.heap.size := cell_below (HZ.out 4 (by omega) (by omega)); exact h2)
        have hst4 := start_any M' w.heap.size a n sh cur used nd pl st aN nN cN fN aX nX cX fX aA nA cA fA vR vI root aF lf cf z w3 hQ4 (fun c hc => by rw [hM']; exact .inr hc) (fun hl => by
          obtain ⟨b', o', e', hc'⟩ := hr3 hl
          exact ⟨b', o', e', hrF b' o' hl e', hc'⟩) hz3 h8' (by omega)
        have HMM : Hid (∀ b, b < w.heap.size → ¬ M' b) := hMM
        clear hcl hQ4 hQ3 hz3 h8' hMM hM' hrw hcw hc3
        go_upto_region 24 with (go_at_call 11; refine hst4.mono ?_; rintro e w4 ⟨S, n', k, nd', pl', st', gN, cN', gX, cX', fX', aA', cA', rfl, t4, hS4, hf0⟩)
        have rK4 : Reads w4 aK lf z := by
          intro hl
          obtain ⟨b', o', e', hc'⟩ := rK hl
          exact ⟨b', o', e', fun j hj => t4.cell (hc' j hj) (hK' b' o' hl e')⟩
        have rF4 : Reads w4 aF lf z := by
          intro hl
          obtain ⟨b', o', e', hc'⟩ := hr3 hl
          exact ⟨b', o', e', fun j hj => t4.cell (hc' j hj) (hrF b' o' hl e')⟩
        have heq := equal_any aF cf aK cK lf z w4 rF4 rK4 (by omega)
        have T4 : Turn M w w4 := T3.trans t4 (fun b hb y => absurd y (HMM.out b hb))
        have HS4 : Hid (Sr w4 M' w.heap.size S n' k (nxt cur) nd' pl' st' (enumE (NN [root] z lf)) (NN [root] z lf) (PP [root] z lf) gN cN' (some ⟨gX, 0, none⟩) 1 cX' fX' aA' cA' ((1 + lf : Nat) : Int) ((PP [root] z lf).any (· == 0))) := hS4
        have HF0 : Hid (fX' 0 = .slice aA' lf lf) := hf0
        clear hst4 hS4 hf0 rK rK4 hK' hrF hr3 x2 t3 t4 lK
        go_upto_region 26 with (go_at_call 13; refine heq.mono ?_; rintro e w5 ⟨rfl, t5⟩)
        have T5 : Hid (Turn M w w5) := T4.trans t5 (fun _ _ y => y.elim)
        have HS5 : Hid (Sr w5 M' w.heap.size S n' k (nxt cur) nd' pl' st' (enumE (NN [root] z lf)) (NN [root] z lf) (PP [root] z lf) gN cN' (some ⟨gX, 0, none⟩) 1 cX' fX' aA' cA' ((1 + lf : Nat) : Int) ((PP [root] z lf).any (· == 0))) := HS4.out.turn t5
        have HF5 : Hid (Reads w5 aF lf z) := rF4.turn t5 (fun _ _ _ y => y)
        have hcur : cur < 4294967296 := HQ.out.tq.c1
        obtain ⟨i0, i1, i2, i3, i4⟩ := info_parts info3
        have hmk := fun W => run_make (P := Ybad.prog) W 26 3 i0 _ Ybad.underlying26 i1 i2 .i64 .i64 0 (lf : Int) (by omega) (by omega) (by rw [i4]; omega) (by omega)
        simp only [Int.toNat_natCast, i3, Int.toNat_zero, Nat.mul_one] at hmk
        clear heq HS4 T4 T3 rF4 t5 HQ HTc
        go_upto_block 4 with fail
        have N0 : Nd w5 ((w5.alloc (.cells #[.int .i64 root] 3)).alloc (.cells (madeCells #[.int .i64 0] lf) 3)) (NN [root] z 0) (PP [root] z 0) w5.heap.size 1 (w5.heap.size + 1) lf := by
          refine ⟨⟨Nat.le_refl _, by unfold maxLen; omega, #[.int .i64 root], ?_, rfl, fun i hi => ?_⟩, ⟨Nat.zero_le _, by unfold maxLen; omega, madeCells #[.int .i64 0] lf, ?_, size_madeCells _ _, fun i hi => absurd hi (by simp [PP])⟩, by omega, Nat.le_refl _, by omega, ((Turn.refl _ _).alloc _).alloc _⟩
          · rw [Below.heap_alloc _ _ _ (by simp)]
            exact heap_alloc_new w5 _
          · have : i = 0 := by simp [NN] at hi; omega
            subst this
            rfl
          · have := heap_alloc_new (w5.alloc (.cells #[.int .i64 root] 3)) (.cells (madeCells #[.int .i64 0] lf) 3)
            simpa using this
        generalize (w5.alloc (.cells #[.int .i64 root] 3)).alloc (.cells (madeCells #[.int .i64 0] lf) 3) = w6 at N0 ⊢
        have HN0 : Hid (Nd w5 w6 (NN [root] z 0) (PP [root] z 0) w5.heap.size 1 (w5.heap.size + 1) lf) := N0
        clear N0 hmk
        go_cut [18, 19, 20, 22, 23, 24, 25, 114] from 115 to 145 (fun s18 s19 s20 _ _ _ _ _ wx => ∃ g18 c18 g19 c19, s18 = .slice (some ⟨g18, 0, none⟩) (NN [root] z lf).length c18 ∧ s19 = .slice (some ⟨g19, 0, none⟩) lf c19 ∧ s20 = .bool ((PP [root] z lf).any (· == 0)) ∧ Hid (Nd w5 wx (NN [root] z lf) (PP [root] z lf) g18 c18 g19 c19))
        case first =>
          go_wp2_with fail
          go_loopg [18, 19, 20, 114] lf (fun gk s18 s19 s20 s114 wr => ∃ m g18 c18 g19 c19, m ≤ lf ∧ gk = lf - m ∧ s114 = .int .i64 (m : Nat) ∧ s18 = .slice (some ⟨g18, 0, none⟩) (NN [root] z m).length c18 ∧ s19 = .slice (some ⟨g19, 0, none⟩) m c19 ∧ s20 = .bool ((PP [root] z m).any (· == 0)) ∧ Hid (Nd w5 wr (NN [root] z m) (PP [root] z m) g18 c18 g19 c19))
          case atStart => exact ⟨0, _, _, _, _, by omega, rfl, rfl, rfl, rfl, rfl, HN0⟩
          case round =>
            obtain ⟨m, g18, c18, g19, c19, hmn, hgk, rfl, rfl, rfl, rfl, HN⟩ := hrel
            by_cases hlt : m < lf
            · obtain ⟨bF, oF, rfl, hcF⟩ := HF5.out (by omega)
              have zc := HN.out.tn.cell (hcF m hlt) (fun y => y)
              have j0 : (0 : Int) ≤ (m : Int) := by omega
              have j1 : (m : Int) < (lf : Int) := by omega
              have bn := NN_length [root] z m
              obtain ⟨N1, hN1⟩ : ∃ N1, N1 = NN [root] z m := ⟨_, rfl⟩
              obtain ⟨P1, hP1⟩ : ∃ P1, P1 = PP [root] z m := ⟨_, rfl⟩
              have hpl := PP_length [root] z m
              rw [← hN1, ← hP1] at HN
              rw [← hP1] at hpl ⊢
              rw [← hN1] at bn ⊢
              have bn2 : N1.length ≤ 5000 := by simp at bn; omega
              have G1 : Hid (N1 = NN [root] z m ∧ P1 = PP [root] z m ∧ P1.length = m) := ⟨hN1, hP1, hpl⟩
              obtain ⟨ib, hib⟩ : ∃ ib, ib = P1.any (· == 0) := ⟨_, rfl⟩
              have HIB : Hid (ib = P1.any (· == 0)) := hib
              rw [← hib]
              obtain ⟨wo, hwo⟩ : ∃ wo : World, wo = wr := ⟨_, rfl⟩
              rw [← hwo] at HN zc ⊢
              clear hwo hcF hN1 hP1 hpl hib bn
              go_upto_block 6 with fail
              go_cut [23, 24, 25, 120] from 121 to 129 (fun s23 _ _ _ wx => s23 = .int .i64 (if z m ∈ N1 then (placeIn N1 (z m) : Int) else -1) ∧ wx = wo)
              case first =>
                go_wp2_with fail
                go_loopg [23, 120] N1.length (fun gk s23 s120 wr => ∃ j : Nat, j ≤ N1.length ∧ gk = N1.length - j ∧ s23 = .int .i64 (-1) ∧ s120 = .int .i64 j ∧ wr = wo ∧ ∀ i, i < j → N1.getD i 0 ≠ z m)
                case atStart => exact ⟨0, by omega, rfl, rfl, rfl, rfl, fun i hi => absurd hi (by omega)⟩
                case round =>
                  obtain ⟨j, hjn, hgj, rfl, rfl, rfl, hfj⟩ := hrel
                  have HFJ : Hid (∀ i, i < j → N1.getD i 0 ≠ z m) := hfj
                  clear hfj
                  by_cases hjl : j < N1.length
                  · have k0 : (0 : Int) ≤ (j : Int) := by omega
                    have k1 : (j : Int) < (N1.length : Int) := by omega
                    have cj : wr.cell? ⟨g18, j, none⟩ = some (.int .i64 (N1.getD j 0)) := HN.out.sn.cell hjl
                    by_cases he : N1.getD j 0 = z m
                    · have hde : (N1.getD j 0 == z m) = true := by simpa using he
                      obtain ⟨y, hy⟩ : ∃ y, y = N1.getD j 0 := ⟨_, rfl⟩
                      rw [← hy] at cj hde
                      have HY : Hid (y = N1.getD j 0) := hy
                      clear hy he
                      go_wp2_with fail
                      go_meet
                      case rel =>
                        have e2 : y = z m := by simpa using hde
                        obtain ⟨e3, e4⟩ := idx_first hjl HFJ.out (by rw [← HY.out]; exact e2)
                        refine ⟨?_, rfl⟩
                        rw [if_pos e3, e4]
                    · have hde : (N1.getD j 0 == z m) = false := by simpa using he
                      have HE : Hid (N1.getD j 0 ≠ z m) := he
                      obtain ⟨y, hy⟩ : ∃ y, y = N1.getD j 0 := ⟨_, rfl⟩
                      rw [← hy] at cj hde
                      clear hy he
                      go_wp2_with fail
                      go_roundg (N1.length - (j + 1))
                      case measure => omega
                      case rel =>
                        refine ⟨j + 1, by omega, rfl, rfl, by go_num, rfl, fun i hi => ?_⟩
                        by_cases e : i = j
                        · rw [e]; exact HE.out
                        · exact HFJ.out i (by omega)
                  · obtain rfl : j = N1.length := by omega
                    go_wp2_with fail
                    go_meet
                    case rel => exact ⟨by rw [if_neg (idx_none HFJ.out)], rfl⟩
              case rest =>
                obtain ⟨rfl, hwc⟩ := hcut
                rw [hwc]
                clear hwc
                obtain ⟨X, hX⟩ : ∃ X : Int, X = if z m ∈ N1 then (placeIn N1 (z m) : Int) else -1 := ⟨_, rfl⟩
                rw [← hX]
                have HX : Hid (X = if z m ∈ N1 then (placeIn N1 (z m) : Int) else -1) := hX
                clear hX
                go_upto_if 131 with fail
                go_cut [18, 23] from 130 to 137 (fun s18 s23 wx => s23 = .int .i64 (placeIn N1 (z m) : Nat) ∧ ∃ g c, s18 = .slice (some ⟨g, 0, none⟩) (addNode N1 (z m)).length c ∧ Hid (Nd w5 wx (addNode N1 (z m)) P1 g c g19 c19))
                case first =>
                  by_cases hin : z m ∈ N1
                  · have hXv := HX.out
                    rw [if_pos hin] at hXv
                    have hdx : decide (X < 0) = false := by rw [hXv]; simp
                    go_wp2_with fail
                    go_meet
                    case rel => exact ⟨by rw [hXv], g18, c18, by rw [addNode, if_pos hin], by rw [addNode, if_pos hin]; exact HN⟩
                  · have hXv := HX.out
                    rw [if_neg hin] at hXv
                    have hdx : decide (X < 0) = true := by rw [hXv]; decide
                    have hx0 : X < 0 := by rw [hXv]; decide
                    have hpi : placeIn N1 (z m) = N1.length := List.idxOf_eq_length hin
                    have HPI : Hid (placeIn N1 (z m) = N1.length) := hpi
                    have ta : Turn (fun _ => False) wo (wo.alloc (.cells #[.int .i64 (z m)] 3)) := (Turn.refl _ _).alloc _
                    have HSN : Hid (SlI (wo.alloc (.cells #[.int .i64 (z m)] 3)) 3 g18 N1.length c18 (ints N1)) := HN.out.sn.turn ta (fun y => y)
                    have m1 : N1.length + 1 ≤ maxLen := by unfold maxLen; omega
                    clear hXv hpi
                    go_wp2_with (at_builtin; refine wpList_append_sl _ rfl (.tmp 134) (.tmp 136) 26 rfl 3 i0 (.int .i64 0) 8 Ybad.underlying26 i1 i2 i3 i4 rfl g18 N1.length c18 (ints N1) rfl HSN.out wo.heap.size 0 1 1 (fun _ => .int .i64 (z m)) rfl (new_one _ _ _) (fun _ _ => rfl) m1 (by omega) (wo.heap.size + 1) (by simp) ?_; intro g' c' w7 s7 t7 l7)
                    go_meet
                    case rel =>
                      have hl : (N1 ++ [z m]).length = N1.length + 1 := by simp
                      refine ⟨by rw [HPI.out], g', c', by rw [addNode, if_neg hin, hl], ?_⟩
                      rw [addNode, if_neg hin]
                      have tw : Turn (fun c => c = g18) wo w7 := (ta.mono (fun _ _ y => y.elim)).trans t7 (fun _ _ y => y)
                      have hsz := HN.out.tn.size
                      have l19 := HN.out.sp.lt
                      refine ⟨by rw [hl]; exact s7.congr (fun i hi => getD_push N1 (z m) i hi), HN.out.sp.turn tw (fun e => HN.out.ne e.symm), ?_, ?_, HN.out.l19, ?_⟩
                      · rcases l7 with e | e
                        · rw [e]; exact HN.out.ne
                        · omega
                      · rcases l7 with e | e
                        · rw [e]; exact HN.out.l18
                        · omega
                      · exact HN.out.tn.trans tw (fun i hi e => by have := HN.out.l18; omega)
                case rest =>
                  obtain ⟨rfl, g, c, rfl, HNc⟩ := hcut
                  have hplen := G1.out.2.2
                  have ta : Turn (fun _ => False) wc (wc.alloc (.cells #[.int .i64 ((placeIn N1 (z m) : Nat) : Int)] 3)) := (Turn.refl _ _).alloc _
                  have hsp : SlI (wc.alloc (.cells #[.int .i64 ((placeIn N1 (z m) : Nat) : Int)] 3)) 3 g19 P1.length c19 (ints P1) := HNc.out.sp.turn ta (fun y => y)
                  rw [hplen] at hsp
                  have HSP : Hid (SlI (wc.alloc (.cells #[.int .i64 ((placeIn N1 (z m) : Nat) : Int)] 3)) 3 g19 m c19 (ints P1)) := hsp
                  have m1 : m + 1 ≤ maxLen := by unfold maxLen; omega
                  obtain ⟨pp, hpp⟩ : ∃ pp, pp = placeIn N1 (z m) := ⟨_, rfl⟩
                  rw [← hpp] at ta HSP ⊢
                  have HPP : Hid (pp = placeIn N1 (z m)) := hpp
                  clear hplen hsp hpp
                  go_upto_region 43 with (at_builtin; refine wpList_append_sl _ rfl (.tmp 138) (.tmp 140) 26 rfl 3 i0 (.int .i64 0) 8 Ybad.underlying26 i1 i2 i3 i4 rfl g19 m c19 (ints P1) rfl HSP.out wc.heap.size 0 1 1 (fun _ => .int .i64 (pp : Int)) rfl (new_one _ _ _) (fun _ _ => rfl) m1 (by omega) (wc.heap.size + 1) (by simp) ?_; intro g' c' w7 s7 t7 l7)
                  have HNf : Hid (Nd w5 w7 (NN [root] z (m + 1)) (PP [root] z (m + 1)) g c g' c') := by
                    obtain ⟨e1, e2, e3⟩ := G1.out
                    have hl : (PP [root] z (m + 1)).length = m + 1 := PP_length _ _ _
                    have tw : Turn (fun b => b = g19) wc w7 := (ta.mono (fun _ _ y => y.elim)).trans t7 (fun _ _ y => y)
                    have eN : NN [root] z (m + 1) = addNode N1 (z m) := by rw [NN, ← e1]
                    have eP : PP [root] z (m + 1) = P1 ++ [(pp : Int)] := by rw [PP, ← e1, ← e2, HPP.out]
                    have hsz := HNc.out.tn.size
                    have l18 := HNc.out.sn.lt
                    refine ⟨by rw [eN]; exact HNc.out.sn.turn tw HNc.out.ne, ?_, ?_, HNc.out.l18, ?_, ?_⟩
                    · rw [hl, eP]
                      refine s7.congr (fun i hi => ?_)
                      have := getD_push P1 (pp : Int) i (by omega)
                      rw [e3] at this
                      exact this
                    · rcases l7 with e | e
                      · rw [e]; exact HNc.out.ne
                      · omega
                    · rcases l7 with e | e
                      · rw [e]; exact HNc.out.l19
                      · omega
                    · exact HNc.out.tn.trans tw (fun i hi e => by have := HNc.out.l19; omega)
                  have eLen : Hid ((addNode N1 (z m)).length = (NN [root] z (m + 1)).length) := by
                    obtain ⟨e1, e2, e3⟩ := G1.out
                    show (addNode N1 (z m)).length = _
                    rw [NN, ← e1]
                  have eAny : Hid ((PP [root] z (m + 1)).any (· == 0) = (ib || (z m == root))) := by
                    obtain ⟨e1, e2, e3⟩ := G1.out
                    show (PP [root] z (m + 1)).any (· == 0) = _
                    rw [PP, List.any_append, ← e2, HIB.out]
                    have := place_root root z m (z m)
                    simp only [List.any_cons, List.any_nil, Bool.or_false]
                    rw [this]
                  clear s7 t7 l7 ta HSP HNc HN zc
                  by_cases hroot : z m = root
                  · have hdr : (z m == root) = true := by simpa using hroot
                    have hdr2 : decide (z m = root) = true := by simpa using hroot
                    have HDR : Hid (z m = root) := hroot
                    clear hroot
                    go_wp2_with fail
                    go_roundg (lf - (m + 1))
                    case measure => omega
                    case rel => exact ⟨m + 1, g, c, g', c', by omega, rfl, by go_num, by rw [eLen.out], rfl, by rw [eAny.out, HDR.out]; simp, HNf⟩
                  · have hdr : (z m == root) = false := by simpa using hroot
                    have hdr2 : decide (z m = root) = false := by simpa using hroot
                    have HDR : Hid ((z m == root) = false) := hdr
                    clear hroot
                    go_wp2_with fail
                    go_roundg (lf - (m + 1))
                    case measure => omega
                    case rel => exact ⟨m + 1, g, c, g', c', by omega, rfl, by go_num, by rw [eLen.out], rfl, by rw [eAny.out, HDR.out, Bool.or_false], HNf⟩
            · obtain rfl : m = lf := by omega
              go_wp2_with fail
              go_meet
              case rel => exact ⟨g18, c18, g19, c19, rfl, rfl, rfl, HN⟩
        case rest =>
          obtain ⟨g18, c18, g19, c19, rfl, rfl, rfl, HN⟩ := hcut
          clear HN0
          obtain ⟨wd, hwd⟩ : ∃ wd : World, wd = wc := ⟨_, rfl⟩
          rw [← hwd] at HN ⊢
          clear hwd
          have hSf := HS5.out.turn HN.out.tn
          have Tf : Hid (Turn M w wd) := T5.out.trans HN.out.tn (fun _ _ y => y.elim)
          have hNl := NN_length [root] z lf
          have hNn := NN_nodup (N := [root]) (by simp) z lf
          have hPl := PP_length [root] z lf
          obtain ⟨N, hN⟩ : ∃ N, N = NN [root] z lf := ⟨_, rfl⟩
          obtain ⟨P, hP⟩ : ∃ P, P = PP [root] z lf := ⟨_, rfl⟩
          rw [← hN, ← hP] at hSf HN
          rw [← hN] at hNl hNn
          rw [← hP] at hPl ⊢
          rw [← hN]
          simp only [List.length_singleton] at hNl
          have hNl2 : N.length ≤ 5000 := by omega
          have hsa := hSf.sa
          rw [hPl] at hsa
          have hsp := HN.out.sp
          rw [hPl] at hsp
          have y4 : wd.cell? ⟨w.heap.size, 4, none⟩ = some (.slice (some ⟨gN, 0, none⟩) N.length cN') := hSf.tb.o.cell (by omega)
          have heq1 := fun W (t : Turn (fun _ => False) wd W) => equal_any (some ⟨gN, 0, none⟩) cN' (some ⟨g18, 0, none⟩) c18 N.length (fun i => N.getD i 0) W ((SlI.reads (L := N) hSf.sn).turn t (fun _ _ _ y => y)) (HN.out.sn.reads.turn t (fun _ _ _ y => y)) (by omega)
          have heq2 := fun cc W (t : Turn (fun _ => False) wd W) => equal_any aA' cc (some ⟨g19, 0, none⟩) c19 lf (fun i => P.getD i 0) W ((OwnI.reads (L := P) hsa).turn t (fun _ _ _ y => y)) (hsp.reads.turn t (fun _ _ _ y => y)) (by omega)
          have HSf : Hid (Sr wd M' w.heap.size S n' k (nxt cur) nd' pl' st' (enumE N) N P gN cN' (some ⟨gX, 0, none⟩) 1 cX' fX' aA' cA' ((1 + lf : Nat) : Int) (P.any (· == 0))) := hSf
          have HNd : Hid (N.Nodup) := hNn
          have HE2 : Hid (∀ cc W (t : Turn (fun _ => False) wd W), Calls Ybad.prog 13 #[.slice aA' lf cc, .slice (some ⟨g19, 0, none⟩) lf c19] W fun e w' => e = .returned (.bool true) ∧ Turn (fun _ => False) W w') := heq2
          have ySt : ∀ W, Turn (fun _ => False) wd W → Sr W M' w.heap.size S n' k (nxt cur) nd' pl' st' (enumE N) N P gN cN' (some ⟨gX, 0, none⟩) 1 cX' fX' aA' cA' ((1 + lf : Nat) : Int) (P.any (· == 0)) := fun W t => hSf.turn t
          have HSt : Hid (∀ W, Turn (fun _ => False) wd W → Sr W M' w.heap.size S n' k (nxt cur) nd' pl' st' (enumE N) N P gN cN' (some ⟨gX, 0, none⟩) 1 cX' fX' aA' cA' ((1 + lf : Nat) : Int) (P.any (· == 0))) := ySt
          have HPl : Hid (P.length = lf) := hPl
          clear hSf hN hP hNl hNn hsa hsp heq2 HS5 HF5 ySt hPl
          have he1 := heq1 wd (Turn.refl _ _)
          go_upto_region 48 with (go_at_call 13; refine he1.mono ?_; rintro e w7 ⟨rfl, t7⟩)
          have s7 := HSt.out w7 t7
          have y5 : w7.cell? ⟨w.heap.size, 5, none⟩ = some (.slice (some ⟨gX, 0, none⟩) 1 cX') := s7.tb.o.cell (by omega)
          have yX : w7.cell? ⟨gX, 0, none⟩ = some (.slice aA' lf lf) := by
            rcases s7.sx with ⟨e, _⟩ | ⟨g, e, hs⟩
            · cases e
            · cases e
              rw [hs.cell (by omega), HF0.out]
          have he2 := HE2.out lf w7 t7
          clear he1 heq1 y4 s7
          go_upto_region 50 with (go_at_call 13; refine he2.mono ?_; rintro e w8 ⟨rfl, t8⟩)
          have t78 : Turn (fun _ => False) wd w8 := t7.trans t8 (fun _ _ y => y)
          have s8 := HSt.out w8 t78
          have y6 : w8.cell? ⟨w.heap.size, 6, none⟩ = some (.slice aA' P.length cA') := s8.tb.o.cell (by omega)
          rw [HPl.out] at y6
          have he3 := HE2.out cA' w8 t78
          clear he2 y5 yX s8 t7 t8
          go_upto_region 52 with (go_at_call 13; refine he3.mono ?_; rintro e w9 ⟨rfl, t9⟩)
          have T9 : Turn (fun _ => False) wd w9 := t78.trans t9 (fun _ _ y => y)
          have s9 := HSt.out w9 T9
          have y7 : w9.cell? ⟨w.heap.size, 7, none⟩ = some (.int .i64 ((1 + lf : Nat) : Int)) := s9.tb.o.cell (by omega)
          have y8 : w9.cell? ⟨w.heap.size, 8, none⟩ = some (.bool (P.any (· == 0))) := s9.tb.o.cell (by omega)
          have y0 : w9.cell? ⟨w.heap.size, 0, none⟩ = some (.slice (some ⟨S, 0, none⟩) n' n') := s9.tb.o.cell (by omega)
          have y1 : w9.cell? ⟨w.heap.size, 1, none⟩ = some (.int .u64 ((64 - k : Nat) : Int)) := s9.tb.o.cell (by omega)
          have y2 : w9.cell? ⟨w.heap.size, 2, none⟩ = some (.int .u32 ((nxt cur : Nat) : Int)) := s9.tb.o.cell (by omega)
          have y3 : w9.cell? ⟨w.heap.size, 3, none⟩ = some (.int .i64 (((enumE N).length : Nat) : Int)) := s9.tb.o.cell (by omega)
          rw [enumE_length] at y3
          have hhalf := s9.tb.half
          rw [enumE_length] at hhalf
          have hn16 := s9.tb.n16
          obtain ⟨hn16a, hn16b⟩ := hn16
          have hpa := pow_and s9.tb.nk s9.tb.k15
          have hk4 := s9.tb.k4
          have hk15 := s9.tb.k15
          have HNK : Hid (n' = 2 ^ k) := s9.tb.nk
          obtain ⟨ib, hib⟩ : ∃ ib, ib = P.any (· == 0) := ⟨_, rfl⟩
          rw [← hib] at y8 ⊢
          have HIBf : Hid (ib = P.any (· == 0)) := hib
          clear hib he3 y6 s9 t78 t9
          obtain ⟨q, hq⟩ : ∃ q : Int, IntKind.u32.wrap ((cur : Int) + 1) = q := ⟨_, rfl⟩
          go_upto_if 196 with fail
          go_cut [26] from 193 to 196 (fun s26 wx => s26 = .int .u32 ((nxt cur : Nat) : Int) ∧ wx = w9)
          case first =>
            by_cases hw : cur + 1 = 4294967296
            · have hq0 : q = 0 := by rw [← hq, show (cur : Int) + 1 = 4294967296 by omega]; decide
              have HX1 : Hid (nxt cur = 1) := if_pos hw
              clear hq
              subst hq0
              go_wp2_with fail
              go_meet
              case rel => exact ⟨by rw [HX1.out]; rfl, rfl⟩
            · have hq0 : q = ((cur + 1 : Nat) : Int) := by rw [← hq, IntKind.wrap_u32]; omega
              have HX1 : Hid (nxt cur = cur + 1) := if_neg hw
              have hqn : (q == 0) = false := by rw [hq0]; simp; omega
              have hqp : ¬ (q = 0) := by simpa using hqn
              have HQ0 : Hid (q = ((cur + 1 : Nat) : Int)) := hq0
              clear hq hq0
              go_wp2_with fail
              go_meet
              case rel => exact ⟨by rw [HX1.out, HQ0.out], rfl⟩
          case rest =>
            obtain ⟨rfl, hw9⟩ := hcut
            rw [hw9]
            clear hw9 hq
            obtain ⟨c2, hc2⟩ : ∃ c2, c2 = nxt cur := ⟨_, rfl⟩
            have HC2 : Hid (c2 = nxt cur) := hc2
            rw [← hc2] at y2 ⊢
            clear hc2
            have hdh : decide ((n' : Int) < 2 * (N.length : Int)) = false := by simp; omega
            have hd16 : decide ((n' : Int) < 16) = false := by simp; omega
            go_upto_block 8 with fail
            go_cut [29] from 238 to 243 (fun s29 wx => s29 = .int .i64 (k : Nat) ∧ wx = w9)
            case first =>
              go_wp2_with fail
              go_loopg [29] k (fun gk s29 wr => ∃ j : Nat, j ≤ k ∧ gk = k - j ∧ s29 = .int .i64 j ∧ wr = w9)
              case atStart => exact ⟨0, by omega, rfl, rfl, rfl⟩
              case round =>
                obtain ⟨j, hjk, hgj, rfl, rfl⟩ := hrel
                have j0 : (0 : Int) ≤ (j : Int) := by omega
                obtain ⟨pj, hpj⟩ : ∃ pj : Nat, pj = 2 ^ j := ⟨_, rfl⟩
                have hpw : (2 : Int) ^ j = (pj : Int) := by rw [hpj, Int.natCast_pow]; rfl
                have hpb : pj ≤ 32768 := by
                  have h1 : 2 ^ j ≤ 2 ^ 15 := Nat.pow_le_pow_right (by omega) (by omega)
                  have h2 : (2 : Nat) ^ 15 = 32768 := by decide
                  omega
                by_cases hjl : j < k
                · have hpn : pj < n' := by
                    have h1 : 2 ^ (j + 1) ≤ 2 ^ k := Nat.pow_le_pow_right (by omega) hjl
                    have h2 : 2 ^ (j + 1) = 2 ^ j * 2 := Nat.pow_succ ..
                    have h3 := HNK.out
                    have h4 : 0 < 2 ^ j := Nat.two_pow_pos _
                    omega
                  have hpi : (pj : Int) < (n' : Int) := by omega
                  clear hpj
                  go_wp2_with fail
                  go_roundg (k - (j + 1))
                  case measure => omega
                  case rel => exact ⟨j + 1, by omega, rfl, by go_num, rfl⟩
                · obtain rfl : j = k := by omega
                  have hpn : pj = n' := by rw [hpj, HNK.out]
                  have hpi : ¬ ((pj : Int) < (n' : Int)) := by omega
                  have hpi2 : (n' : Int) ≤ (pj : Int) := by omega
                  clear hpj hpn
                  go_wp2_with fail
                  go_meet
                  case rel => exact ⟨rfl, rfl⟩
            case rest =>
              obtain ⟨rfl, hw9⟩ := hcut
              rw [hw9]
              clear hw9
              have e64 : (64 : Int) - (k : Int) = ((64 - k : Nat) : Int) := by omega
              obtain ⟨sh, hsh⟩ : ∃ sh : Nat, sh = 64 - k := ⟨_, rfl⟩
              rw [← hsh] at y1 e64
              have hshb : sh ≤ 64 := by omega
              clear hsh
              have info4 : (Ybad.prog.info? 4).map (fun i => (i.zero, i.size, i.bytes)) = some (some (.bool false), 1, 1) := by kernel_rfl
              have hmk := run_make_row' (P := Ybad.prog) 45 4 (.bool false) 1 Ybad.underlying45 info4 rfl .i64 .i64 N.length (by omega) (by omega)
              go_upto_region 70 with fail
              have t10 : Turn (fun _ => False) w9 (w9.alloc (.cells (madeCells #[.bool false] N.length) 4)) := (Turn.refl _ _).alloc _
              have r10 : (w9.alloc (.cells (madeCells #[.bool false] N.length) 4)).rowIs w9.heap.size 4 N.length (fun p => .bool (sv c2 pl' st' 0 p)) := World.rowIs_made w9 (.bool false) N.length 4
              generalize w9.alloc (.cells (madeCells #[.bool false] N.length) 4) = w10 at t10 r10 ⊢
              have y0b := t10.cell y0 (fun y => y)
              have HT10 : Hid (Turn (fun _ => False) w9 w10) := t10
              have HR10 : Hid (w10.rowIs w9.heap.size 4 N.length (fun p => .bool (sv c2 pl' st' 0 p))) := r10
              have HT9 : Hid (Turn (fun _ => False) wd w9) := T9
              clear hmk y0 y1 y2 y3 y7 y8 t10 r10 hpa hdh hd16 e64 T9
              go_upto_block 10 with fail
              go_cut [31, 32, 33, 260] from 261 to 307 (fun s31 _ _ _ wx => s31 = .int .i64 (N.length : Nat) ∧ Hid (Turn M w wx))
              case first =>
                go_wp2_with fail
                go_loopg [31, 260] n' (fun gk s31 s260 wr => ∃ i : Nat, i ≤ n' ∧ gk = n' - i ∧ s31 = .int .i64 (cntB (fun j => st' j == c2) i : Nat) ∧ s260 = .int .i64 i ∧ Hid (Turn (fun _ => False) w9 wr) ∧ Hid (wr.rowIs w9.heap.size 4 N.length (fun p => .bool (sv c2 pl' st' i p))))
                case atStart => exact ⟨0, by omega, rfl, rfl, rfl, HT10, HR10⟩
                case round =>
                  obtain ⟨i, hin, hgi, rfl, rfl, HTi, HRi⟩ := hrel
                  have hSi := HSt.out wr (HT9.out.trans HTi.out (fun _ _ y => y))
                  have hcb := cntB_le (fun j => st' j == c2) i
                  obtain ⟨cn, hcn⟩ : ∃ cn, cn = cntB (fun j => st' j == c2) i := ⟨_, rfl⟩
                  have HCN : Hid (cn = cntB (fun j => st' j == c2) i) := hcn
                  rw [← hcn] at hcb ⊢
                  clear hcn
                  by_cases hlt : i < n'
                  · have z0 : wr.cell? ⟨S, i * 3, none⟩ = some (.int .i64 (nd' i)) := hSi.tb.cell0 hlt
                    have z1 : wr.cell? ⟨S, i * 3 + 1, none⟩ = some (.int .i64 (pl' i)) := hSi.tb.cell1 hlt
                    have z2 : wr.cell? ⟨S, i * 3 + 2, none⟩ = some (.int .u32 (st' i)) := hSi.tb.cell2 hlt
                    have zO : wr.cell? ⟨w.heap.size, 0, none⟩ = some (.slice (some ⟨S, 0, none⟩) n' n') := hSi.tb.o.cell (by omega)
                    have HSi : Hid (TInv n' (hm k) c2 nd' pl' st' (enumE N)) := by rw [HC2.out]; exact hSi.tb.inv
                    have j0 : (0 : Int) ≤ (i : Int) := by omega
                    have j1 : (i : Int) < (n' : Int) := by omega
                    clear hSi
                    go_upto_region 74 with fail
                    have t11 : Turn (fun _ => False) wr (wr.alloc (.cells #[.int .i64 (nd' i), .int .i64 (pl' i), .int .u32 (st' i)] 47)) := (Turn.refl _ _).alloc _
                    have q0 : (wr.alloc (.cells #[.int .i64 (nd' i), .int .i64 (pl' i), .int .u32 (st' i)] 47)).cell? ⟨wr.heap.size, 0, none⟩ = some (.int .i64 (nd' i)) := by rw [cell_of_row _ _ _ _ _ _ (heap_alloc_new wr _)]; rfl
                    have q1 : (wr.alloc (.cells #[.int .i64 (nd' i), .int .i64 (pl' i), .int .u32 (st' i)] 47)).cell? ⟨wr.heap.size, 1, none⟩ = some (.int .i64 (pl' i)) := by rw [cell_of_row _ _ _ _ _ _ (heap_alloc_new wr _)]; rfl
                    have q2 : (wr.alloc (.cells #[.int .i64 (nd' i), .int .i64 (pl' i), .int .u32 (st' i)] 47)).cell? ⟨wr.heap.size, 2, none⟩ = some (.int .u32 (st' i)) := by rw [cell_of_row _ _ _ _ _ _ (heap_alloc_new wr _)]; rfl
                    have lq : wr.heap.size < (wr.alloc (.cells #[.int .i64 (nd' i), .int .i64 (pl' i), .int .u32 (st' i)] 47)).heap.size := by simp
                    generalize wr.alloc (.cells #[.int .i64 (nd' i), .int .i64 (pl' i), .int .u32 (st' i)] 47) = w11 at t11 q0 q1 q2 lq ⊢
                    have T11 : Hid (Turn (fun _ => False) w9 w11) := HTi.out.trans t11 (fun _ _ y => y)
                    have R11 : Hid (w11.rowIs w9.heap.size 4 N.length (fun p => .bool (sv c2 pl' st' i p))) := t11.row HRi.out (fun y => y)
                    clear z0 z1 z2 zO
                    by_cases hlive : st' i = c2
                    · obtain ⟨p, hpN, hpl, hnd, hsv⟩ := slot_ok HSi.out hlt hlive
                      have hd0 : ((st' i : Int) != (c2 : Int)) = false := by simp; omega
                      have hd0' : decide ((st' i : Int) = (c2 : Int)) = true := by simp; omega
                      have rs : w11.cell? ⟨w9.heap.size, p, none⟩ = some (.bool (sv c2 pl' st' i p)) := R11.out.cell hpN
                      rw [hsv] at rs
                      have rf : ∀ j, w11.frozen? ⟨w9.heap.size, j, none⟩ = false := fun j => R11.out.frozen j
                      have rn : w11.cell? ⟨g18, p, none⟩ = some (.int .i64 (N.getD p 0)) := ((HN.out.sn.turn HT9.out (fun y => y)).turn T11.out (fun y => y)).cell hpN
                      rw [hnd] at rn
                      rw [hpl] at q1
                      have p0 : (0 : Int) ≤ (p : Int) := by omega
                      have p1 : (p : Int) < (N.length : Int) := by omega
                      have hd1 : decide ((p : Int) < 0) = false := by simp
                      have hd2 : decide ((N.length : Int) ≤ (p : Int)) = false := by simp; omega
                      have HPL : Hid (pl' i = (p : Int)) := hpl
                      have HLV : Hid (st' i = c2) := hlive
                      clear hnd hpl hsv hlive
                      go_upto_region 75 with fail
                      go_quiet (fail)
                      go_upto_region 77 with fail
                      have rs2 : (w11.drewN nq).cell? ⟨w9.heap.size, p, none⟩ = some (.bool false) := rs
                      have rf2 : ∀ j, (w11.drewN nq).frozen? ⟨w9.heap.size, j, none⟩ = false := rf
                      have q12 : (w11.drewN nq).cell? ⟨wr.heap.size, 1, none⟩ = some (.int .i64 (p : Int)) := q1
                      have T12 : Hid (Turn (fun _ => False) w9 (w11.drewN nq)) := T11.out.drewN nq
                      have R12 : Hid ((w11.drewN nq).rowIs w9.heap.size 4 N.length (fun p => .bool (sv c2 pl' st' i p))) := R11.out
                      generalize w11.drewN nq = w12 at rs2 rf2 q12 T12 R12 ⊢
                      clear rs rf rn q0 q1 q2 hd0 hd0' hd1 hd2 R11 T11 t11 lq
                      go_wp2_with fail
                      go_roundg (n' - (i + 1))
                      case measure => omega
                      case rel =>
                        refine ⟨i + 1, by omega, rfl, ?_, by go_num, T12.out.setCell (p := ⟨w9.heap.size, p, none⟩) (.inl (Nat.le_refl _)) _, ?_⟩
                        · have : cntB (fun j => st' j == c2) (i + 1) = cn + 1 := by
                            rw [cntB, ← HCN.out, HLV.out]; simp
                          rw [this]
                          go_num
                        · refine row_put R12.out p _ _ (fun j hj => ?_)
                          rw [sv, HLV.out, HPL.out]
                          by_cases e : j = p
                          · subst e
                            simp
                          · have e2 : ((p : Int) == (j : Int)) = false := by simp; omega
                            rw [if_neg e, e2]
                            simp
                    · have hd0 : ((st' i : Int) != (c2 : Int)) = true := by simp; omega
                      have hd0' : decide ((st' i : Int) = (c2 : Int)) = false := by simp; omega
                      have HLV : Hid ((st' i == c2) = false) := by
                        show (st' i == c2) = false
                        simpa using hlive
                      clear hlive
                      go_wp2_with fail
                      go_roundg (n' - (i + 1))
                      case measure => omega
                      case rel =>
                        refine ⟨i + 1, by omega, rfl, ?_, by go_num, T11, ?_⟩
                        · have : cntB (fun j => st' j == c2) (i + 1) = cn := by
                            rw [cntB, ← HCN.out]; simp only [HLV.out]; simp
                          rw [this]
                        · refine R11.out.congr (fun j hj => ?_)
                          rw [sv, HLV.out]
                          simp
                  · obtain rfl : i = n' := by omega
                    have hcnt : cn = N.length := by
                      have h1 := hSi.tb.inv.cnt
                      rw [enumE_length, ← HC2.out, ← HCN.out] at h1
                      exact h1
                    have HCT : Hid (cn = N.length) := hcnt
                    clear hcnt hSi
                    go_wp2_with fail
                    go_meet
                    case rel => exact ⟨by rw [HCT.out], (Tf.out.trans HT9.out (fun _ _ y => y.elim)).trans HTi.out (fun _ _ y => y.elim)⟩
              case rest =>
                obtain ⟨rfl, HTe⟩ := hcut
                go_wp2_with fail
                go_ret
                have htb := HTe.out
                rw [HM.out] at htb
                refine ⟨rfl, htb.below (Nat.le_refl _) (fun _ h => h)⟩
end Go.Proofs.YbulkegnmDoor
