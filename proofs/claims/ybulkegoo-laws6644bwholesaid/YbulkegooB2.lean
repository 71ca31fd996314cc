import Derived.Test.YbulkegooB1
import Derived.WalkLawsBesides
namespace Go.Proofs.Ybulkegoo
open Go.RowKit

theorem info25 : (Yba.prog.info? 25).map (fun i => (i.zero, i.size, i.bytes)) = some (some (.pointer none), 1, 8) := by kernel_rfl
/-- The two slices of problems: n pointers to n new Errors, whose Message is 'ss j'. -/
structure Errs (w wx : World) (pa ka : Option Addr) (n : Nat) (b : Nat → Nat) (ss : Nat → ByteArray) : Prop where
  rp : 0 < n → ∃ P, pa = some ⟨P, 0, none⟩ ∧ wx.rowIs P 25 n (fun j => .pointer (some ⟨b j, 0, none⟩))
  rk : 0 < n → ∃ K, ka = some ⟨K, 0, none⟩ ∧ wx.rowIs K 25 n (fun j => .pointer (some ⟨b j, 0, none⟩))
  cs : ∀ j, j < n → wx.cell? ⟨b j, 3, none⟩ = some (.string (ss j))
  turn : Turn (fun _ => False) w wx
theorem Errs.carry {w wx wy : World} {pa ka : Option Addr} {n : Nat} {b : Nat → Nat} {ss : Nat → ByteArray} (h : Errs w wx pa ka n b ss) (t : Turn (fun _ => False) wx wy) : Errs w wy pa ka n b ss where
  rp h0 := by obtain ⟨P, e, r⟩ := h.rp h0; exact ⟨P, e, t.row r (fun x => x)⟩
  rk h0 := by obtain ⟨P, e, r⟩ := h.rk h0; exact ⟨P, e, t.row r (fun x => x)⟩
  cs j hj := t.cell (h.cs j hj) (fun x => x)
  turn := h.turn.trans t (fun _ _ x => x)
/-- The rows behind m rounds. -/
def ptrTo (m : Nat) (b : Nat → Nat) : Nat → Value := fun j => if j < m then .pointer (some ⟨b j, 0, none⟩) else .pointer none
structure Half (w wx : World) (P K n m : Nat) (b : Nat → Nat) (ss : Nat → ByteArray) : Prop where
  rp : wx.rowIs P 25 n (ptrTo m b)
  rk : wx.rowIs K 25 n (ptrTo m b)
  cs : ∀ j, j < m → wx.cell? ⟨b j, 3, none⟩ = some (.string (ss j))
  far : ∀ j, j < m → b j ≠ P ∧ b j ≠ K
  turn : Turn (fun _ => False) w wx

theorem run_equalIn_ptr_same {P : Program} (w : World) (d : Nat) (t e : TypeId) (a : Addr) (ht : P.underlying t = some (.pointer e)) (hs : (P.info? e).map (fun i => decide (i.size = 0)) = some false) :
    (Op.equalIn (d + 1) t (.pointer (some a)) (.pointer (some a))).run P w = .ok true w := by
  obtain ⟨i, hi, _⟩ := Option.map_eq_some_iff.1 hs
  simp [Op.equalIn, run_underlying ht, sizeOf, typeInfo, hi, sameAddr]
theorem run_neq_ptr_same {P : Program} (w : World) (t e : TypeId) (a : Addr) (ht : P.underlying t = some (.pointer e)) (hs : (P.info? e).map (fun i => decide (i.size = 0)) = some false) :
    (binOp .neq t (.pointer (some a)) (.pointer (some a))).run P w = .ok (.bool false) w := by
  simp only [binOp]
  simp [Op.equal, Op.maxDepth, run_equalIn_ptr_same w 9999 t e a ht hs]
theorem td4 {c : Int} (h1 : 400 ≤ c) (h2 : c ≤ 499) : (c.tdiv 100 == 4) = true := by
  rw [Int.tdiv_eq_ediv_of_nonneg (by omega), beq_iff_eq]; omega
theorem td5 {c : Int} (h1 : 500 ≤ c) (h2 : c ≤ 599) : (c.tdiv 100 == 4) = false ∧ (c.tdiv 100 == 5) = true := by
  rw [Int.tdiv_eq_ediv_of_nonneg (by omega), beq_iff_eq, beq_eq_false_iff_ne]; omega
theorem td_other {c : Int} (h : c < 400 ∨ 599 < c) : (c.tdiv 100 == 4) = false ∧ (c.tdiv 100 == 5) = false := by
  by_cases h0 : 0 ≤ c
  · rw [Int.tdiv_eq_ediv_of_nonneg h0, beq_eq_false_iff_ne, beq_eq_false_iff_ne]; omega
  · obtain ⟨k, rfl⟩ : ∃ k, c = -k := ⟨-c, by omega⟩
    rw [Int.neg_tdiv, Int.tdiv_eq_ediv_of_nonneg (by omega), beq_eq_false_iff_ne, beq_eq_false_iff_ne]; omega
/-- What the law wants behind addStatus. -/
def Res (code : Int) (msg : ByteArray) (s0 : Int) (d0 : ByteArray) (f0 : Int) (u0 : Bool) (ws : Int) (wd : ByteArray) (wf : Int) (wu : Bool) (we : Int) : Prop :=
  (400 ≤ code ∧ code ≤ 499 ∧ (s0 == 0) = true ∧ ws = code ∧ wd = msg ∧ wf = f0 ∧ wu = u0 ∧ we = 1) ∨ (400 ≤ code ∧ code ≤ 499 ∧ (s0 == 0) = false ∧ ws = s0 ∧ wd = d0 ∧ wf = f0 ∧ wu = u0 ∧ we = 0) ∨
  (500 ≤ code ∧ code ≤ 599 ∧ (f0 == 0) = true ∧ ws = s0 ∧ wd = d0 ∧ wf = code ∧ wu = u0 ∧ we = 0) ∨ (500 ≤ code ∧ code ≤ 599 ∧ (f0 == 0) = false ∧ ws = s0 ∧ wd = d0 ∧ wf = f0 ∧ wu = u0 ∧ we = 0) ∨
  ((code < 400 ∨ 599 < code) ∧ ws = s0 ∧ wd = d0 ∧ wf = f0 ∧ wu = true ∧ we = 0)
theorem add_all (F C : Nat) (p : Value) (code : Int) (msg : ByteArray) (s0 : Int) (d0 : ByteArray) (f0 : Int) (u0 : Bool) (w : World) (fc : F ≠ C)
    (hF : w.rowIs F 34 5 (rdF p s0 d0 f0 u0)) (hC : w.rowIs C 37 4 (coF code msg 0 0)) :
    Calls Yba.prog 6 #[.pointer (some ⟨F, 0, none⟩), .iface 35 (.pointer (some ⟨C, 0, none⟩))] w fun e w' => e = .returned (.tuple #[]) ∧ ∃ ws wd wf wu we, Res code msg s0 d0 f0 u0 ws wd wf wu we ∧ Added F C p code msg ws wd wf wu we w w' := by
  by_cases h4 : 400 ≤ code ∧ code ≤ 499
  · by_cases hs : s0 = 0
    · subst hs
      refine (add_four F C p code msg d0 f0 u0 w fc hF hC h4.1 h4.2).mono ?_
      rintro e w' ⟨rfl, hA⟩
      exact ⟨rfl, _, _, _, _, _, .inl ⟨h4.1, h4.2, rfl, rfl, rfl, rfl, rfl, rfl⟩, hA⟩
    · have hs' : (s0 == 0) = false := by simpa using hs
      refine (add_four' F C p code msg s0 d0 f0 u0 w fc hF hC h4.1 h4.2 hs').mono ?_
      rintro e w' ⟨rfl, hA⟩
      exact ⟨rfl, _, _, _, _, _, .inr (.inl ⟨h4.1, h4.2, hs', rfl, rfl, rfl, rfl, rfl⟩), hA⟩
  · by_cases h5 : 500 ≤ code ∧ code ≤ 599
    · by_cases hf : f0 = 0
      · subst hf
        refine (add_five F C p code msg s0 d0 u0 w fc hF hC h5.1 h5.2).mono ?_
        rintro e w' ⟨rfl, hA⟩
        exact ⟨rfl, _, _, _, _, _, .inr (.inr (.inl ⟨h5.1, h5.2, rfl, rfl, rfl, rfl, rfl, rfl⟩)), hA⟩
      · have hf' : (f0 == 0) = false := by simpa using hf
        refine (add_five' F C p code msg s0 d0 f0 u0 w fc hF hC h5.1 h5.2 hf').mono ?_
        rintro e w' ⟨rfl, hA⟩
        exact ⟨rfl, _, _, _, _, _, .inr (.inr (.inr (.inl ⟨h5.1, h5.2, hf', rfl, rfl, rfl, rfl, rfl⟩))), hA⟩
    · have ho : code < 400 ∨ 599 < code := by omega
      refine (add_other F C p code msg s0 d0 f0 u0 w fc hF hC ho).mono ?_
      rintro e w' ⟨rfl, hA⟩
      exact ⟨rfl, _, _, _, _, _, .inr (.inr (.inr (.inr ⟨ho, rfl, rfl, rfl, rfl, rfl⟩))), hA⟩
theorem half_start (w : World) (n : Nat) (b : Nat → Nat) (ss : Nat → ByteArray) : Half w ((w.alloc (.cells (madeCells #[.pointer none] n) 25)).alloc (.cells (madeCells #[.pointer none] n) 25)) w.heap.size (w.heap.size + 1) n 0 b ss where
  rp := ((World.rowIs_made w (.pointer none) n 25).alloc _).congr (fun i _ => by simp [ptrTo])
  rk := by
    have := World.rowIs_made (w.alloc (.cells (madeCells #[.pointer none] n) 25)) (.pointer none) n 25
    simp only [World.size_alloc] at this
    exact this.congr (fun i _ => by simp [ptrTo])
  cs j hj := absurd hj (by omega)
  far j hj := absurd hj (by omega)
  turn := ((Turn.refl (fun _ => False) w).alloc _).alloc _

theorem ptrTo_step {m n : Nat} {b : Nat → Nat} {g : Nat} (j : Nat) (_hj : j < n) : ptrTo (m + 1) (fun j => if j = m then g else b j) j = if j = m then .pointer (some ⟨g, 0, none⟩) else ptrTo m b j := by
  unfold ptrTo
  by_cases h : j = m
  · subst h; simp
  · by_cases h2 : j < m
    · rw [if_pos (by omega), if_neg h, if_pos h2]; simp [h]
    · rw [if_neg (by omega), if_neg h, if_neg h2]
theorem cell_setCell_far {w : World} {p q : Addr} (h : q.block ≠ p.block) (v : Value) : (w.setCell p v).cell? q = w.cell? q := World.cell?_of_block (Below.heap_setCell _ _ _ _ h)
theorem half_step {w wr : World} {P K n m : Nat} {b : Nat → Nat} {ss : Nat → ByteArray} (hH : Half w wr P K n m b ss) (pk : P ≠ K) (hm : m < n) (hP : w.heap.size ≤ P) (hK : w.heap.size ≤ K) (c : Array Value) (h3 : c[3]? = some (.string (ss m))) :
    Half w (((wr.setCell ⟨P, m, none⟩ (.pointer (some ⟨wr.heap.size, 0, none⟩))).setCell ⟨K, m, none⟩ (.pointer (some ⟨wr.heap.size, 0, none⟩))).alloc (.cells c 30)) P K n (m + 1) (fun j => if j = m then wr.heap.size else b j) ss where
  rp := ((row_put hH.rp m _ _ ptrTo_step).setOther (a := ⟨K, m, none⟩) pk _).alloc _
  rk := (row_put (hH.rk.setOther (a := ⟨P, m, none⟩) (Ne.symm pk) _) m _ _ ptrTo_step).alloc _
  cs j hj := by
    have hsz : ((wr.setCell ⟨P, m, none⟩ (.pointer (some ⟨wr.heap.size, 0, none⟩))).setCell ⟨K, m, none⟩ (.pointer (some ⟨wr.heap.size, 0, none⟩))).heap.size = wr.heap.size := by simp [World.setCell]
    by_cases h : j = m
    · subst h
      simp only [if_true]
      have := heap_alloc_new ((wr.setCell ⟨P, j, none⟩ (.pointer (some ⟨wr.heap.size, 0, none⟩))).setCell ⟨K, j, none⟩ (.pointer (some ⟨wr.heap.size, 0, none⟩))) (.cells c 30)
      rw [hsz] at this
      rw [cell_of_row _ _ 3 _ _ _ this]
      exact h3
    · rw [if_neg h]
      have hc := hH.cs j (by omega)
      obtain ⟨f1, f2⟩ := hH.far j (by omega)
      refine ((Turn.refl (fun _ => False) _).alloc _).cell ?_ (fun x => x)
      rw [cell_setCell_far f2, cell_setCell_far f1]
      exact hc
  far j hj := by
    have l1 := hH.rp.lt
    have l2 := hH.rk.lt
    by_cases h : j = m
    · subst h; simp; omega
    · rw [if_neg h]; exact hH.far j (by omega)
  turn := ((hH.turn.setCell (p := ⟨P, m, none⟩) (.inl hP) _).setCell (p := ⟨K, m, none⟩) (.inl hK) _).alloc _
theorem half_end {w wr : World} {P K n : Nat} {b : Nat → Nat} {ss : Nat → ByteArray} (hH : Half w wr P K n n b ss) : Errs w wr (some ⟨P, 0, none⟩) (some ⟨K, 0, none⟩) n b ss where
  rp _ := ⟨P, rfl, hH.rp.congr (fun _ hj => if_pos hj)⟩
  rk _ := ⟨K, rfl, hH.rk.congr (fun _ hj => if_pos hj)⟩
  cs := hH.cs
  turn := hH.turn

set_option maxRecDepth 100000 in
set_option maxHeartbeats 1000000 in
theorem lawB_walk (raw sel : Int) (msg : ByteArray) (s0 : Int) (d0 : ByteArray) (f0 : Int) (u0 : Bool) (a7 : Option Addr) (n cap : Nat) (ss : Nat → ByteArray) (w : World)
    (r1 : -9223372036854775808 ≤ raw) (r2 : raw ≤ 9223372036854775807) (e0 : 0 ≤ sel) (e1 : sel ≤ 255) (hn : n ≤ 1048576)
    (hnil : a7 = none → n = 0 ∧ cap = 0) (hc : 0 < n → ∃ bm off, a7 = some ⟨bm, off, none⟩ ∧ ∀ j, j < n → w.cell? ⟨bm, off + j, none⟩ = some (.string (ss j))) :
    Calls Yba.prog 3 #[.int .i64 raw, .int .u8 sel, .string msg, .int .i64 s0, .string d0, .int .i64 f0, .bool u0, .slice a7 n cap] w fun e w' => e = .returned (.bool true) ∧ Below w.heap.size w w' := by
  have hmk24 := run_make_row' (P := Yba.prog) 24 25 (.pointer none) 8 Yba.underlying24 info25 rfl .i64 .i64 n (by omega) (by omega)
  have hmk23 := run_make_row' (P := Yba.prog) 23 25 (.pointer none) 8 Yba.underlying23 info25 rfl .i64 .i64 n (by omega) (by omega)
  have HC : Hid (0 < n → ∃ bm off, a7 = some ⟨bm, off, none⟩ ∧ ∀ j, j < n → w.cell? ⟨bm, off + j, none⟩ = some (.string (ss j))) := hc
  have HN : Hid (a7 = none → n = 0 ∧ cap = 0) := hnil
  clear hc hnil
  go_enter Yba.func3, Yba.ntmps3
  go_upto_if 34 with fail
  go_cut [17, 18] (fun s17 s18 wx => ∃ (pa ka : Option Addr) (b : Nat → Nat), s17 = .slice pa n n ∧ s18 = .slice ka n n ∧ pa.isNone = a7.isNone ∧ Hid (Errs w wx pa ka n b ss))
  case first =>
    cases ha : a7 with
    | none =>
      obtain ⟨h0, h1⟩ := HN.out ha
      subst ha h0 h1
      clear hmk24 hmk23
      go_wp2
      go_meet
      case rel => exact ⟨none, none, fun _ => 0, rfl, rfl, rfl, ⟨fun h => absurd h (by omega), fun h => absurd h (by omega), fun j hj => absurd hj (by omega), Turn.refl _ _⟩⟩
    | some ad =>
      subst ha
      clear HN
      go_wp2
      go_loopg [19] n (fun gk i wr => ∃ (m : Nat) (b : Nat → Nat), m ≤ n ∧ gk = n - m ∧ i = .int .i64 m ∧ Hid (Half w wr w.heap.size (w.heap.size + 1) n m b ss))
      case atStart => exact ⟨0, fun _ => 0, by omega, rfl, rfl, half_start w n (fun _ => 0) ss⟩
      case round =>
        obtain ⟨m, b, hmn, hgk, rfl, HH⟩ := hrel
        by_cases hlt : m < n
        · obtain ⟨bm, off, had, hcell⟩ := HC.out (by omega)
          obtain rfl := Option.some.inj had
          have hcm : wr.cell? ⟨bm, off + m, none⟩ = some (.string (ss m)) := HH.out.turn.cell (hcell m hlt) (fun x => x)
          have p1 : wr.cell? ⟨w.heap.size, m, none⟩ = some (.pointer none) := (HH.out.rp.cell hlt).trans (by simp [ptrTo])
          have p2 : wr.frozen? ⟨w.heap.size, m, none⟩ = false := HH.out.rp.frozen m
          have q1 : wr.cell? ⟨w.heap.size + 1, m, none⟩ = some (.pointer none) := (HH.out.rk.cell hlt).trans (by simp [ptrTo])
          have q2 : wr.frozen? ⟨w.heap.size + 1, m, none⟩ = false := HH.out.rk.frozen m
          have lP := HH.out.rp.lt
          have lK := HH.out.rk.lt
          clear hcell had
          go_wp2
          go_roundg (n - (m + 1))
          case measure => omega
          case rel => exact ⟨m + 1, _, by omega, rfl, by go_num, half_step HH.out (by omega) hlt (by omega) (by omega) _ rfl⟩
        · obtain rfl : m = n := by omega
          go_wp2
          go_meet
          case rel => exact ⟨_, _, b, rfl, rfl, rfl, half_end HH.out⟩
  case rest =>
    obtain ⟨pa, ka, b, rfl, rfl, hpa, HE⟩ := hcut
    obtain ⟨wa, rfl⟩ : ∃ wa : World, wa = wc := ⟨_, rfl⟩
    clear hmk24 hmk23
    go_wp2_with (go_at_call 5; refine (bcode_any raw sel _ r1 r2 e0 e1).mono ?_; rintro e w1 ⟨⟨code, rfl, k1, k2⟩, hb1⟩)
    have hF : ((w1.alloc (.cells #[.slice pa n n, .int .i64 s0, .string d0, .int .i64 f0, .bool u0] 34)).alloc (.cells #[.int .i64 code, .string msg, .int .i64 0, .int .i64 0] 37)).rowIs w1.heap.size 34 5 (rdF (.slice pa n n) s0 d0 f0 u0) :=
      ((row_of_block (heap_alloc_new w1 _) _ (fun i hi => by rcases (show i = 0 ∨ i = 1 ∨ i = 2 ∨ i = 3 ∨ i = 4 by simp at hi; omega) with rfl | rfl | rfl | rfl | rfl <;> rfl)).alloc _)
    have hC : ((w1.alloc (.cells #[.slice pa n n, .int .i64 s0, .string d0, .int .i64 f0, .bool u0] 34)).alloc (.cells #[.int .i64 code, .string msg, .int .i64 0, .int .i64 0] 37)).rowIs (w1.heap.size + 1) 37 4 (coF code msg 0 0) :=
      (row_of_block (heap_alloc2_new w1 _ _) _ (fun i hi => by rcases (show i = 0 ∨ i = 1 ∨ i = 2 ∨ i = 3 by simp at hi; omega) with rfl | rfl | rfl | rfl <;> rfl))
    refine (add_all w1.heap.size (w1.heap.size + 1) (.slice pa n n) code msg s0 d0 f0 u0 _ (by omega) hF hC).mono ?_
    rintro e w3 ⟨rfl, ws, wd, wf, wu, we, hR, hA⟩
    have T3 : Turn (fun _ => False) w1 w3 := (((Turn.refl (fun _ => False) w1).alloc _).alloc _).trans hA.turn (fun i hi h => by rcases h with h | h <;> omega)
    have HE3 : Hid (Errs w w3 pa ka n b ss) := HE.out.carry ((Turn.ofBelow hb1).trans T3 (fun _ _ x => x))
    clear hF hC T3 HE hb1
    go_upto_block 2 with fail
    go_cut [24, 25, 26, 27, 28] (fun s24 s25 s26 s27 s28 wx => s24 = .int .i64 ws ∧ s25 = .string wd ∧ s26 = .int .i64 wf ∧ s27 = .bool wu ∧ s28 = .int .i64 we ∧ wx = w3)
    case first =>
      clear HE3 hA HC HN
      rcases hR with ⟨c1, c2, hs, rfl, rfl, rfl, rfl, rfl⟩ | ⟨c1, c2, hs, rfl, rfl, rfl, rfl, rfl⟩ | ⟨c1, c2, hs, rfl, rfl, rfl, rfl, rfl⟩ | ⟨c1, c2, hs, rfl, rfl, rfl, rfl, rfl⟩ | ⟨c1, rfl, rfl, rfl, rfl, rfl⟩
      · have q := td4 c1 c2
        go_wp2
        go_meet
        case rel => exact ⟨rfl, rfl, rfl, rfl, rfl, rfl⟩
      · have q := td4 c1 c2
        go_wp2
        go_meet
        case rel => exact ⟨rfl, rfl, rfl, rfl, rfl, rfl⟩
      · obtain ⟨q, q'⟩ := td5 c1 c2
        go_wp2
        go_meet
        case rel => exact ⟨rfl, rfl, rfl, rfl, rfl, rfl⟩
      · obtain ⟨q, q'⟩ := td5 c1 c2
        go_wp2
        go_meet
        case rel => exact ⟨rfl, rfl, rfl, rfl, rfl, rfl⟩
      · obtain ⟨q, q'⟩ := td_other c1
        go_wp2
        go_meet
        case rel => exact ⟨rfl, rfl, rfl, rfl, rfl, rfl⟩
    case rest =>
      obtain ⟨rfl, rfl, rfl, rfl, rfl, hwc⟩ := hcut
      rw [hwc]
      clear hwc hR
      have f0' : w3.cell? ⟨w1.heap.size, 0, none⟩ = some (.slice pa n n) := hA.rd.cell (by omega)
      have f1' : w3.cell? ⟨w1.heap.size, 1, none⟩ = some (.int .i64 ws) := hA.rd.cell (by omega)
      have f2' : w3.cell? ⟨w1.heap.size, 2, none⟩ = some (.string wd) := hA.rd.cell (by omega)
      have f3' : w3.cell? ⟨w1.heap.size, 3, none⟩ = some (.int .i64 wf) := hA.rd.cell (by omega)
      have f4' : w3.cell? ⟨w1.heap.size, 4, none⟩ = some (.bool wu) := hA.rd.cell (by omega)
      have g2' : w3.cell? ⟨w1.heap.size + 1, 2, none⟩ = some (.int .i64 1) := hA.co.cell (by omega)
      have g3' : w3.cell? ⟨w1.heap.size + 1, 3, none⟩ = some (.int .i64 we) := hA.co.cell (by omega)
      have n24 := fun wx => Lib.run_eql_slice_nil (P := Yba.prog) wx 24 25 pa n n 0 0 Yba.underlying24
      have n22 := fun wx => Lib.run_eql_slice_nil (P := Yba.prog) wx 22 9 a7 n cap 0 0 Yba.underlying22
      by_cases h0 : n = 0
      · subst h0
        go_wp2
        refine wp_loop_rounds 1 ?_
        rw [rounds_succ]
        go_wp2
        go_ret
        exact ⟨rfl, HE3.out.turn.below (Nat.le_refl _) (fun _ h => h.elim)⟩
      · obtain ⟨P, rfl, rP⟩ := HE3.out.rp (by omega)
        obtain ⟨K, rfl, rK⟩ := HE3.out.rk (by omega)
        obtain ⟨bm, off, rfl, hcell⟩ := HC.out (by omega)
        have hcell3 : Hid (∀ j, j < n → w3.cell? ⟨bm, off + j, none⟩ = some (.string (ss j))) := fun j hj => HE3.out.turn.cell (hcell j hj) (fun x => x)
        have HP : Hid (w3.rowIs P 25 n (fun j => .pointer (some ⟨b j, 0, none⟩))) := rP
        have HK : Hid (w3.rowIs K 25 n (fun j => .pointer (some ⟨b j, 0, none⟩))) := rK
        have hq := fun (a : Addr) (wx : World) => run_neq_ptr_same (P := Yba.prog) wx 25 30 a Yba.underlying25 (by kernel_rfl)
        clear rP rK hcell HC HN hA
        go_wp2
        go_loopg [29] n (fun gk i wr => ∃ m : Nat, m ≤ n ∧ gk = n - m ∧ i = .int .i64 m ∧ Turn (fun _ => False) w3 wr)
        case atStart => exact ⟨0, by omega, rfl, rfl, Turn.refl _ _⟩
        case round =>
          obtain ⟨m, hmn, hgk, rfl, hT⟩ := hrel
          by_cases hlt : m < n
          · have x0 := hT.cell f0' (fun x => x)
            have x1 := (hT.row HP.out (fun x => x)).cell hlt
            have x2 := (hT.row HK.out (fun x => x)).cell hlt
            have x3 := hT.cell (HE3.out.cs m hlt) (fun x => x)
            have x4 := hT.cell (hcell3.out m hlt) (fun x => x)
            have i0 : (0 : Int) ≤ (m : Int) := by omega
            have i1 : (m : Int) < (n : Int) := by omega
            clear f0' f1' f2' f3' f4' g2' g3' n24 n22
            go_wp2
            go_quiet (fail)
            go_wp2
            go_roundg (n - (m + 1))
            case measure => omega
            case rel => exact ⟨m + 1, by omega, rfl, by go_num, hT.drewN _⟩
          · go_wp2
            go_ret
            exact ⟨rfl, (HE3.out.turn.trans hT (fun _ _ x => x)).below (Nat.le_refl _) (fun _ h => h.elim)⟩
end Go.Proofs.Ybulkegoo
