import Derived.Test.YbulkegnmR
namespace Go.Proofs.Ybulkegnm
open Go Go.RowKit

theorem info30 : (Yba.prog.info? 30).map (fun i => (i.zero, i.size, i.bytes)) = some (some (.agg #[.int .u8 0, .int .i64 0, .string ⟨#[]⟩]), 3, 32) := by kernel_rfl
theorem info27 : (Yba.prog.info? 27).map (fun i => (i.zero, i.size, i.bytes)) = some (some (.agg #[.int .i64 0, .int .i64 0]), 2, 16) := by kernel_rfl
theorem info33 : (Yba.prog.info? 33).map (fun i => (i.zero, i.size, i.bytes)) = some (some (.slice none 0 0), 1, 24) := by kernel_rfl
theorem run_make24 (n : Nat) (hn : n ≤ 1000000) (w : World) :
    (Instr.makeSlice 24 (.int .i64 (n : Int)) (.int .i64 (n : Int))).run Yba.prog w = .ok (.slice (some ⟨w.heap.size, 0, none⟩) n n) (w.alloc (.cells (madeCells #[.int .u8 0, .int .i64 0, .string ⟨#[]⟩] (n * 3)) 30)) := by
  obtain ⟨i, hi, hzz⟩ := Option.map_eq_some_iff.1 info30
  simp only [Prod.mk.injEq] at hzz
  obtain ⟨hz, hs, hb⟩ := hzz
  have hr := run_make (P := Yba.prog) w 24 30 i _ Yba.underlying24 hi hz .i64 .i64 n n (by omega) (Int.le_refl _) (by rw [hb]; omega) (by omega)
  simp only [Int.toNat_natCast, hs] at hr
  exact hr
theorem run_make25 (n : Nat) (hn : n ≤ 1000000) (w : World) :
    (Instr.makeSlice 25 (.int .i64 (n : Int)) (.int .i64 (n : Int))).run Yba.prog w = .ok (.slice (some ⟨w.heap.size, 0, none⟩) n n) (w.alloc (.cells (madeCells #[.int .i64 0, .int .i64 0] (n * 2)) 27)) := by
  obtain ⟨i, hi, hzz⟩ := Option.map_eq_some_iff.1 info27
  simp only [Prod.mk.injEq] at hzz
  obtain ⟨hz, hs, hb⟩ := hzz
  have hr := run_make (P := Yba.prog) w 25 27 i _ Yba.underlying25 hi hz .i64 .i64 n n (by omega) (Int.le_refl _) (by rw [hb]; omega) (by omega)
  simp only [Int.toNat_natCast, hs] at hr
  exact hr
theorem row_made24 (w : World) (n : Nat) (tx : Nat → Nat) : (w.alloc (.cells (madeCells #[.int .u8 0, .int .i64 0, .string ⟨#[]⟩] (n * 3)) 30)).rowIs w.heap.size 30 (n * 3) (opZ 0 tx) := by
  refine ⟨_, heap_alloc_new w _, by simp [madeCells], fun j hj => ?_⟩
  unfold opZ
  rcases (show j % 3 = 0 ∨ j % 3 = 1 ∨ j % 3 = 2 by omega) with h | h | h <;> simp [madeCells, hj, h]
theorem row_made25 (w : World) (n : Nat) : (w.alloc (.cells (madeCells #[.int .i64 0, .int .i64 0] (n * 2)) 27)).rowIs w.heap.size 27 (n * 2) (spF (upI 0) (upI 0)) := by
  refine ⟨_, heap_alloc_new w _, by simp [madeCells], fun j hj => ?_⟩
  unfold spF upI
  rcases Nat.mod_two_eq_zero_or_one j with h | h <;> simp [madeCells, hj, h]
/-- v at place v, for the first p. -/
def idF (p : Nat) : Nat → Value := fun v => .int .i64 ((if v < p then v else 0 : Nat) : Int)
theorem id_step {w : World} {g n p : Nat} (h : w.rowIs g 3 n (idF p)) : (w.setCell ⟨g, p, none⟩ (.int .i64 (p : Int))).rowIs g 3 n (idF (p + 1)) := by
  refine row_put h p _ _ (fun j _ => ?_)
  unfold idF
  by_cases e : j = p
  · subst e; rw [if_pos rfl, if_pos (by omega)]
  · rw [if_neg e]
    by_cases h : j < p
    · rw [if_pos h, if_pos (by omega)]
    · rw [if_neg h, if_neg (by omega)]
theorem mkCl {W : World} {Cb Gb gO gP gD gT gS gK H n L : Nat} {G G' : Nat → List Nat} {A : Nat → Option Addr} {C : Nat → Nat} {A' : Nat → Option Addr} {C' : Nat → Nat} {fi la : Nat → Int} {tx : Nat → Nat}
    (hg : W.heap[Gb]? = some (.cells #[.slice (some ⟨gT, 0, none⟩) n n, .int .i64 (n : Int), .int .i64 (-1), .slice (some ⟨gD, 0, none⟩) n n, .map none, .slice (some ⟨gS, 0, none⟩) n n] 42))
    (hc : W.heap[Cb]? = some (.cells #[.slice (some ⟨gO, 0, none⟩) L L, .pointer (some ⟨Gb, 0, none⟩), .slice none 0 0, .slice (some ⟨gP, 0, none⟩) n n, .slice none 0 0, .int .i64 0, .slice none 0 0] 46))
    (hO : W.rowIs gO 30 (L * 3) (opZ L tx)) (hP : W.rowIs gP 27 (n * 2) (spF fi la)) (hD : W.rowIs gD 3 n (idF n)) (hT : Two W H gS gK n G G' A C A' C') : Cl W Cb Gb gO gP gD gS n L L G A C fi la tx where
  c0 := by simp [World.cell?, hc]
  c1 := by simp [World.cell?, hc]
  c3 := by simp [World.cell?, hc]
  g2 := by simp [World.cell?, hg]
  g3 := by simp [World.cell?, hg]
  g5 := by simp [World.cell?, hg]
  ops := fun i hi => by
    refine ⟨(hO.cell (by omega)).trans ?_, (hO.cell (by omega)).trans ?_, (hO.cell (by omega)).trans ?_⟩
    · unfold opZ; rw [if_pos (by omega), if_pos (by omega)]
    · unfold opZ; rw [if_pos (by omega), if_neg (by omega), if_pos (by omega), show (i * 3 + 1) / 3 = i by omega]
    · unfold opZ; rw [if_pos (by omega), if_neg (by omega), if_neg (by omega)]
  sp := fun v hv => sp0 hP hv
  de := fun v hv => (hD.cell hv).trans (by unfold idF; rw [if_pos hv])
  su := fun v hv => by
    refine ⟨(hT.s.cell hv).1, ?_, ?_, ?_⟩
    · rcases hT.s.el v hv with ⟨h1, _, _⟩ | ⟨_, _, _, ho⟩
      · exact Nat.le_of_eq h1.symm
      · exact ho.le.1
    · intro e
      rcases hT.s.el v hv with ⟨h1, h2, _⟩ | ⟨_, e', _, _⟩
      · exact ⟨h2 e, h1.trans (h2 e)⟩
      · rw [e'] at e; cases e
    · intro ad e
      rcases hT.s.el v hv with ⟨_, _, h3⟩ | ⟨g, e', _, ho⟩
      · obtain ⟨b, e1, _, hb, hcell⟩ := h3 ad e
        exact ⟨b, e1, hb, hcell⟩
      · rw [e'] at e
        cases e
        refine ⟨g, rfl, ho.lt g e', fun j hj => ?_⟩
        obtain ⟨g', e2, h1, _⟩ := ho.cell (i := j) (by show j < (G v).length * 1; omega)
        rw [e'] at e2
        cases e2
        exact h1
theorem two_allocs (w : World) (a b : Obj) : ((w.alloc a).alloc b).heap[w.heap.size]? = some a ∧ ((w.alloc a).alloc b).heap[w.heap.size + 1]? = some b := by
  have h1 := heap_alloc_new w a
  have h2 : ((w.alloc a).alloc b).heap[w.heap.size]? = (w.alloc a).heap[w.heap.size]? := heap_alloc_old _ _ (by simp)
  have h3 := heap_alloc_new (w.alloc a) b
  have e : (w.alloc a).heap.size = w.heap.size + 1 := by simp
  rw [e] at h3
  exact ⟨h2.trans h1, h3⟩
theorem Ad.keep1 {w w' : World} {gA n q : Nat} {R : Nat → Nat} {m : Nat → Nat → Bool} {g : Nat} (h : Ad w gA n q R m) (t : Turn (fun c => c = g) w w') (h1 : gA ≠ g) (h2 : ∀ v, v < q → R v ≠ g) : Ad w' gA n q R m :=
  ⟨t.row h.row h1, fun v hv => t.row (h.el v hv) (h2 v hv), h.inj⟩
theorem modNat (z : Nat → Int) (n : Nat) (hn : 0 < n) : ∃ t : Nat → Nat, ∀ j, z j % (n : Int) = (t j : Int) ∧ t j < n := by
  refine ⟨fun j => (z j % (n : Int)).toNat, fun j => ?_⟩
  have h1 := Int.emod_nonneg (z j) (b := (n : Int)) (by omega)
  have h2 := Int.emod_lt_of_pos (z j) (b := (n : Int)) (by omega)
  exact ⟨(Int.toNat_of_nonneg h1).symm, (Int.toNat_lt h1).2 h2⟩

set_option maxHeartbeats 16000000 in
set_option maxRecDepth 100000 in
theorem law_walk (a0 : Int) (aT : Option Addr) (L capT : Nat) (zt : Nat → Int) (aA : Option Addr) (K capA : Nat) (zf zg : Nat → Int) (w : World)
    (b0 : 0 ≤ a0) (b1 : a0 ≤ 255) (hL : L ≤ 65536) (hK : K ≤ 65536)
    (cT : 0 < L → ∃ b off, aT = some ⟨b, off, none⟩ ∧ ∀ j, j < L → w.cell? ⟨b, off + j, none⟩ = some (.int .u8 (zt j))) (bT : ∀ j, j < L → 0 ≤ zt j ∧ zt j ≤ 255)
    (cA : 0 < K → ∃ b off, aA = some ⟨b, off, none⟩ ∧ ∀ j, j < K → w.cell? ⟨b, off + j * 2, none⟩ = some (.int .u8 (zf j)) ∧ w.cell? ⟨b, off + j * 2 + 1, none⟩ = some (.int .u8 (zg j))) (bA : ∀ j, j < K → 0 ≤ zf j ∧ zf j ≤ 255 ∧ 0 ≤ zg j ∧ zg j ≤ 255) :
    Calls Yba.prog 3 #[.int .u8 a0, .slice aT L capT, .slice aA K capA] w fun e w' => e = .returned (.bool true) ∧ Below w.heap.size w w' := by
  have HcT : Hid (0 < L → ∃ b off, aT = some ⟨b, off, none⟩ ∧ ∀ j, j < L → w.cell? ⟨b, off + j, none⟩ = some (.int .u8 (zt j))) := cT
  have HbT : Hid (∀ j, j < L → 0 ≤ zt j ∧ zt j ≤ 255) := bT
  have HcA : Hid (0 < K → ∃ b off, aA = some ⟨b, off, none⟩ ∧ ∀ j, j < K → w.cell? ⟨b, off + j * 2, none⟩ = some (.int .u8 (zf j)) ∧ w.cell? ⟨b, off + j * 2 + 1, none⟩ = some (.int .u8 (zg j))) := cA
  have HbA : Hid (∀ j, j < K → 0 ≤ zf j ∧ zf j ≤ 255 ∧ 0 ≤ zg j ∧ zg j ≤ 255) := bA
  have d1 : decide ((65536 : Int) < (L : Int)) = false := by simp; omega
  have d2 : decide ((65536 : Int) < (K : Int)) = false := by simp; omega
  clear cT bT cA bA
  go_enter Yba.func3, Yba.ntmps3
  go_upto_region 4 with fail
  obtain ⟨n, hn⟩ : ∃ n : Nat, 1 + a0 % 12 = (n : Int) := ⟨(1 + a0 % 12).toNat, by omega⟩
  have n0 : 0 < n := by omega
  have n1 : n ≤ 12 := by omega
  rw [hn]
  obtain ⟨a1, ha1⟩ : ∃ a1, a1 = a0 % 12 := ⟨_, rfl⟩
  rw [← ha1]
  clear hn ha1 b0 b1 d1 d2
  obtain ⟨tx, htx⟩ := modNat zt n n0
  obtain ⟨fa, hfa⟩ := modNat zf n n0
  obtain ⟨fb, hfb⟩ := modNat zg n n0
  have Hfa : Hid (∀ j, zf j % (n : Int) = (fa j : Int) ∧ fa j < n) := hfa
  have Hfb : Hid (∀ j, zg j % (n : Int) = (fb j : Int) ∧ fb j < n) := hfb
  clear hfa hfb
  have Htx : Hid (∀ j, zt j % (n : Int) = (tx j : Int) ∧ tx j < n) := htx
  clear htx
  have hm24 := run_make24 L (by omega)
  have hm25 := run_make25 n (by omega)
  go_upto_region 6 with fail
  have R1 : Hid (((w.alloc (.cells (madeCells #[.int .u8 0, .int .i64 0, .string ⟨#[]⟩] (L * 3)) 30)).alloc (.cells (madeCells #[.int .i64 0, .int .i64 0] (n * 2)) 27)).rowIs w.heap.size 30 (L * 3) (opZ 0 tx)) := (row_made24 w L tx).alloc _
  have R2 : Hid (((w.alloc (.cells (madeCells #[.int .u8 0, .int .i64 0, .string ⟨#[]⟩] (L * 3)) 30)).alloc (.cells (madeCells #[.int .i64 0, .int .i64 0] (n * 2)) 27)).rowIs (w.heap.size + 1) 27 (n * 2) (spF (upI 0) (upI 0))) := by
    have h := row_made25 (w.alloc (.cells (madeCells #[.int .u8 0, .int .i64 0, .string ⟨#[]⟩] (L * 3)) 30)) n
    have e : (w.alloc (.cells (madeCells #[.int .u8 0, .int .i64 0, .string ⟨#[]⟩] (L * 3)) 30)).heap.size = w.heap.size + 1 := by simp
    rw [e] at h
    exact h
  have T1 : Hid (Turn (fun _ => False) w ((w.alloc (.cells (madeCells #[.int .u8 0, .int .i64 0, .string ⟨#[]⟩] (L * 3)) 30)).alloc (.cells (madeCells #[.int .i64 0, .int .i64 0] (n * 2)) 27))) := ((Turn.refl _ _).alloc _).alloc _
  obtain ⟨gO, hgO⟩ : ∃ gO, gO = w.heap.size := ⟨_, rfl⟩
  obtain ⟨gP, hgP⟩ : ∃ gP, gP = w.heap.size + 1 := ⟨_, rfl⟩
  rw [← hgO] at R1
  rw [← hgP] at R2
  have HgO : Hid (w.heap.size ≤ gO) := by rw [hgO]; exact Nat.le_refl _
  have HgP : Hid (w.heap.size ≤ gP) := by rw [hgP]; exact Nat.le_succ _
  rw [← hgP, ← hgO]
  generalize (w.alloc (.cells (madeCells #[.int .u8 0, .int .i64 0, .string ⟨#[]⟩] (L * 3)) 30)).alloc (.cells (madeCells #[.int .i64 0, .int .i64 0] (n * 2)) 27) = w1 at R1 R2 T1 ⊢
  clear hm24 hm25 hgO hgP
  go_wp2_with fail
  go_loopg [10] n (fun gk i wr => ∃ q : Nat, q ≤ n ∧ gk = n - q ∧ i = .int .i64 q ∧ Hid (Turn (fun _ => False) w wr) ∧ Hid (wr.rowIs gO 30 (L * 3) (opZ 0 tx)) ∧ Hid (wr.rowIs gP 27 (n * 2) (spF (upI q) (upI q))))
  case atStart => exact ⟨0, Nat.zero_le _, rfl, rfl, T1, R1, R2⟩
  case round =>
    clear T1 R1 R2
    obtain ⟨q, hq, hgk, rfl, HT, HO, HP⟩ := hrel
    by_cases hlt : q < n
    · as_aux_lemma =>
      have hd : decide ((q : Int) < (n : Int)) = true := by simp; omega
      have i0 : (0 : Int) ≤ (q : Int) := by omega
      have i1 : (q : Int) < (n : Int) := by omega
      obtain ⟨y0, y1⟩ := sp0 HP.out hlt
      have fP : ∀ j, wr.frozen? ⟨gP, j, none⟩ = false := fun j => HP.out.frozen j
      have HP2 : Hid (((wr.setCell ⟨gP, q * 2, none⟩ (.int .i64 (-1))).setCell ⟨gP, q * 2 + 1, none⟩ (.int .i64 (-1))).rowIs gP 27 (n * 2) (spF (upI (q + 1)) (upI (q + 1)))) := by
        have h1 := sp_set1 (sp_set0 HP.out q (-1)) q (-1)
        rw [upI_step] at h1
        exact h1
      have hne : gO ≠ gP := row_ne HO.out HP.out (by decide)
      go_wp2_with fail
      go_roundg (n - (q + 1))
      case measure => omega
      case rel =>
        refine ⟨q + 1, by omega, rfl, val_int (by omega), ?_, ?_, HP2⟩
        · exact (HT.out.setCell (p := ⟨gP, q * 2, none⟩) (.inl HgP.out) _).setCell (p := ⟨gP, q * 2 + 1, none⟩) (.inl HgP.out) _
        · have t2 : Turn (fun k => k = gP) wr ((wr.setCell ⟨gP, q * 2, none⟩ (.int .i64 (-1))).setCell ⟨gP, q * 2 + 1, none⟩ (.int .i64 (-1))) := ((Turn.refl (fun k => k = gP) _).setCell (p := ⟨gP, q * 2, none⟩) (.inr rfl) _).setCell (p := ⟨gP, q * 2 + 1, none⟩) (.inr rfl) _
          exact t2.row HO.out hne
    · have hd : decide ((q : Int) < (n : Int)) = false := by simp; omega
      obtain rfl : q = n := by omega
      have HP0 : Hid (wr.rowIs gP 27 (q * 2) (spF (FI tx 0) (LA tx 0))) := HP.out.congr (fun j hj => by
        have e : upI q (j / 2) = -1 := if_pos (by omega)
        simp only [spF, e, FI, LA])
      obtain ⟨w2, hw2⟩ : ∃ w2, w2 = wr := ⟨_, rfl⟩
      rw [← hw2] at HT HO HP0 ⊢
      clear HP hw2 hq hgk hlt
      go_wp2_with fail
      go_loopg [11] L (fun gk i wr => ∃ m : Nat, m ≤ L ∧ gk = L - m ∧ i = .int .i64 m ∧ Hid (Turn (fun _ => False) w wr) ∧ Hid (wr.rowIs gO 30 (L * 3) (opZ m tx)) ∧ Hid (wr.rowIs gP 27 (q * 2) (spF (FI tx m) (LA tx m))))
      case atStart => exact ⟨0, Nat.zero_le _, rfl, rfl, HT, HO, HP0⟩
      case round =>
        clear HT HO HP0
        obtain ⟨m, hm, hgk, rfl, HT, HO, HP⟩ := hrel
        by_cases hlt : m < L
        · have hd : decide ((m : Int) < (L : Int)) = true := by simp; omega
          have i0 : (0 : Int) ≤ (m : Int) := by omega
          have i1 : (m : Int) < (L : Int) := by omega
          obtain ⟨bt, ot, haT, hct⟩ := HcT.out (by omega)
          subst haT
          have yt := HT.out.cell (hct m hlt) (fun y => y)
          have hz := HbT.out m hlt
          obtain ⟨ht, htn⟩ := Htx.out m
          have Ht : Hid (zt m % (q : Int) = (tx m : Int)) := ht
          have z0 := hz.1
          have z1 := hz.2
          clear ht
          go_upto_region 15 with fail
          rw [Ht.out]
          have hO3 : ∀ c, c < 3 → ∃ u, wr.cell? ⟨gO, m * 3 + c, none⟩ = some u := fun c hc => ⟨_, HO.out.cell (by omega)⟩
          obtain ⟨u0, yo0⟩ := hO3 0 (by omega)
          obtain ⟨u1, yo1⟩ := hO3 1 (by omega)
          obtain ⟨u2, yo2⟩ := hO3 2 (by omega)
          rw [Nat.add_zero] at yo0
          have fO : ∀ j, wr.frozen? ⟨gO, j, none⟩ = false := fun j => HO.out.frozen j
          have hne : gO ≠ gP := row_ne HO.out HP.out (by decide)
          clear hO3 yt z0 z1 hz
          have HO3 : Hid ((((wr.setCell ⟨gO, m * 3, none⟩ (.int .u8 119)).setCell ⟨gO, m * 3 + 1, none⟩ (.int .i64 (tx m : Nat))).setCell ⟨gO, m * 3 + 2, none⟩ (.string ⟨#[120]⟩)).rowIs gO 30 (L * 3) (opZ (m + 1) tx)) := op_step HO.out
          have TO : Turn (fun k => k = gO) wr (((wr.setCell ⟨gO, m * 3, none⟩ (.int .u8 119)).setCell ⟨gO, m * 3 + 1, none⟩ (.int .i64 (tx m : Nat))).setCell ⟨gO, m * 3 + 2, none⟩ (.string ⟨#[120]⟩)) := (((Turn.refl (fun k => k = gO) _).setCell (p := ⟨gO, m * 3, none⟩) (.inr rfl) _).setCell (p := ⟨gO, m * 3 + 1, none⟩) (.inr rfl) _).setCell (p := ⟨gO, m * 3 + 2, none⟩) (.inr rfl) _
          have HP3 := TO.row HP.out (fun e => hne e.symm)
          have T3 : Hid (Turn (fun _ => False) w (((wr.setCell ⟨gO, m * 3, none⟩ (.int .u8 119)).setCell ⟨gO, m * 3 + 1, none⟩ (.int .i64 (tx m : Nat))).setCell ⟨gO, m * 3 + 2, none⟩ (.string ⟨#[120]⟩))) := HT.out.trans TO (fun i hi e => by
            have e' : i = gO := e
            have := HgO.out
            omega)
          go_upto_region 16 with fail
          generalize ((wr.setCell ⟨gO, m * 3, none⟩ (.int .u8 119)).setCell ⟨gO, m * 3 + 1, none⟩ (.int .i64 (tx m : Nat))).setCell ⟨gO, m * 3 + 2, none⟩ (.string ⟨#[120]⟩) = w3 at HO3 HP3 T3 ⊢
          have HP4 : Hid (w3.rowIs gP 27 (q * 2) (spF (FI tx m) (LA tx m))) := HP3
          clear TO HP3 HO HP HT yo0 yo1 yo2 fO
          obtain ⟨y0, y1⟩ := sp0 HP4.out htn
          have fP : ∀ j, w3.frozen? ⟨gP, j, none⟩ = false := fun j => HP4.out.frozen j
          have j0 : (0 : Int) ≤ (tx m : Int) := by omega
          have j1 : (tx m : Int) < (q : Int) := by omega
          by_cases hf : FI tx m (tx m) < 0
          · as_aux_lemma =>
            have hd1 : decide (FI tx m (tx m) < 0) = true := by simp [hf]
            have HP5 : Hid (((w3.setCell ⟨gP, tx m * 2, none⟩ (.int .i64 (m : Int))).setCell ⟨gP, tx m * 2 + 1, none⟩ (.int .i64 (m : Int))).rowIs gP 27 (q * 2) (spF (FI tx (m + 1)) (LA tx (m + 1)))) := by
              have h1 := sp_set1 (sp_set0 HP4.out (tx m) (m : Int)) (tx m) (m : Int)
              rw [FI_step1 tx m hf, LA_step] at h1
              exact h1
            clear hf
            go_wp2_with fail
            go_roundg (L - (m + 1))
            case measure => omega
            case rel =>
              refine ⟨m + 1, by omega, rfl, val_int (by omega), ?_, ?_, HP5⟩
              · exact (T3.out.setCell (p := ⟨gP, tx m * 2, none⟩) (.inl HgP.out) _).setCell (p := ⟨gP, tx m * 2 + 1, none⟩) (.inl HgP.out) _
              · have t2 : Turn (fun k => k = gP) w3 ((w3.setCell ⟨gP, tx m * 2, none⟩ (.int .i64 (m : Int))).setCell ⟨gP, tx m * 2 + 1, none⟩ (.int .i64 (m : Int))) := ((Turn.refl (fun k => k = gP) _).setCell (p := ⟨gP, tx m * 2, none⟩) (.inr rfl) _).setCell (p := ⟨gP, tx m * 2 + 1, none⟩) (.inr rfl) _
                exact t2.row HO3.out hne
          · as_aux_lemma =>
            have hd1 : decide (FI tx m (tx m) < 0) = false := by simp; omega
            have HP5 : Hid ((w3.setCell ⟨gP, tx m * 2 + 1, none⟩ (.int .i64 (m : Int))).rowIs gP 27 (q * 2) (spF (FI tx (m + 1)) (LA tx (m + 1)))) := by
              have h1 := sp_set1 HP4.out (tx m) (m : Int)
              rw [FI_step0 tx m hf, LA_step] at h1
              exact h1
            clear hf
            go_wp2_with fail
            go_roundg (L - (m + 1))
            case measure => omega
            case rel =>
              refine ⟨m + 1, by omega, rfl, val_int (by omega), ?_, ?_, HP5⟩
              · exact T3.out.setCell (p := ⟨gP, tx m * 2 + 1, none⟩) (.inl HgP.out) _
              · have t2 : Turn (fun k => k = gP) w3 (w3.setCell ⟨gP, tx m * 2 + 1, none⟩ (.int .i64 (m : Int))) := (Turn.refl (fun k => k = gP) _).setCell (p := ⟨gP, tx m * 2 + 1, none⟩) (.inr rfl) _
                exact t2.row HO3.out hne
        · have hd : decide ((m : Int) < (L : Int)) = false := by simp; omega
          obtain rfl : m = L := by omega
          obtain ⟨w2, hw2⟩ : ∃ w2, w2 = wr := ⟨_, rfl⟩
          rw [← hw2] at HT HO HP ⊢
          clear hw2 hm hgk hlt
          have hm36 := run_make_row' (P := Yba.prog) 31 36 (.slice none 0 0) 24 Yba.underlying31 info36 rfl .i64 .i64 q (by omega) (by omega)
          have hm33 := run_make_row' (P := Yba.prog) 32 33 (.slice none 0 0) 24 Yba.underlying32 info33 rfl .i64 .i64 q (by omega) (by omega)
          go_upto_region 22 with fail
          have D3 : Hid (Two (((w2.alloc (.cells (madeCells #[.slice none 0 0] q) 36)).alloc (.cells (madeCells #[.slice none 0 0] q) 36)).alloc (.cells (madeCells #[.slice none 0 0] q) 33)) w2.heap.size w2.heap.size (w2.heap.size + 1) q (fun _ => []) (fun _ => []) (fun _ => none) (fun _ => 0) (fun _ => none) (fun _ => 0)) := two_made w2 q (by omega)
          have A3 : Hid (Ad (((w2.alloc (.cells (madeCells #[.slice none 0 0] q) 36)).alloc (.cells (madeCells #[.slice none 0 0] q) 36)).alloc (.cells (madeCells #[.slice none 0 0] q) 33)) (w2.heap.size + 1 + 1) q 0 (fun _ => 0) (fun _ _ => false)) := ad_made w2 q
          have T3 : Hid (Turn (fun _ => False) w2 (((w2.alloc (.cells (madeCells #[.slice none 0 0] q) 36)).alloc (.cells (madeCells #[.slice none 0 0] q) 36)).alloc (.cells (madeCells #[.slice none 0 0] q) 33))) := (((Turn.refl _ _).alloc _).alloc _).alloc _
          obtain ⟨gA, hgA⟩ : ∃ gA, gA = w2.heap.size + 1 + 1 := ⟨_, rfl⟩
          obtain ⟨gK, hgK⟩ : ∃ gK, gK = w2.heap.size + 1 := ⟨_, rfl⟩
          obtain ⟨H, hH⟩ : ∃ H, H = w2.heap.size := ⟨_, rfl⟩
          have HgA : Hid (H ≤ gA) := by show H ≤ gA; omega
          have HH : Hid (w2.heap.size = H) := hH.symm
          rw [← hgK, ← hH] at D3
          rw [← hgA] at A3
          rw [← hgA, ← hgK, ← hH]
          generalize ((w2.alloc (.cells (madeCells #[.slice none 0 0] q) 36)).alloc (.cells (madeCells #[.slice none 0 0] q) 36)).alloc (.cells (madeCells #[.slice none 0 0] q) 33) = w3 at D3 A3 T3 ⊢
          clear hm36 hm33 hgA hgK hH
          have hm4 := run_make_row' (P := Yba.prog) 33 4 (.bool false) 1 Yba.underlying33 info4 rfl .i64 .i64 q (by omega) (by omega)
          go_wp2_with fail
          go_loopg [16] q (fun gk i wr => ∃ (k : Nat) (R : Nat → Nat), k ≤ q ∧ gk = q - k ∧ i = .int .i64 k ∧ Hid (Turn (fun _ => False) w2 wr) ∧ Hid (Two wr H H gK q (fun _ => []) (fun _ => []) (fun _ => none) (fun _ => 0) (fun _ => none) (fun _ => 0)) ∧ Hid (Ad wr gA q k R (fun _ _ => false)) ∧ Hid (∀ v, v < k → H ≤ R v))
          case atStart => exact ⟨0, fun _ => 0, Nat.zero_le _, rfl, rfl, T3, D3, A3, fun v hv => absurd hv (by omega)⟩
          case round =>
            clear T3 D3 A3
            obtain ⟨k, R, hk, hgk, rfl, HT3, HD, HA, HR⟩ := hrel
            by_cases hlt : k < q
            · as_aux_lemma =>
              have hd : decide ((k : Int) < (q : Int)) = true := by simp; omega
              have i0 : (0 : Int) ≤ (k : Int) := by omega
              have i1 : (k : Int) < (q : Int) := by omega
              have A3a : Hid (Ad (wr.alloc (.cells (madeCells #[.bool false] q) 4)) gA q k R (fun _ _ => false)) := HA.out.turn ((Turn.refl _ _).alloc _)
              have ya : (wr.alloc (.cells (madeCells #[.bool false] q) 4)).cell? ⟨gA, k, none⟩ = some _ := A3a.out.row.cell hlt
              have fA : (wr.alloc (.cells (madeCells #[.bool false] q) 4)).frozen? ⟨gA, k, none⟩ = false := A3a.out.row.frozen k
              have hTA := rowTy A3a.out.row
              have HA2 := HA.out.make hlt
              have tG : Turn (fun c => c = gA) (wr.alloc (.cells (madeCells #[.bool false] q) 4)) ((wr.alloc (.cells (madeCells #[.bool false] q) 4)).setCell ⟨gA, k, none⟩ (.slice (some ⟨wr.heap.size, 0, none⟩) q q)) := (Turn.refl (fun c => c = gA) _).setCell (p := ⟨gA, k, none⟩) (.inr rfl) _
              have HD2 : Hid (Two ((wr.alloc (.cells (madeCells #[.bool false] q) 4)).setCell ⟨gA, k, none⟩ (.slice (some ⟨wr.heap.size, 0, none⟩) q q)) H H gK q (fun _ => []) (fun _ => []) (fun _ => none) (fun _ => 0) (fun _ => none) (fun _ => 0)) :=
                (HD.out.turn ((Turn.refl _ _).alloc _)).keep tG (fun c hc => by
                  have hc' : c = gA := hc
                  subst hc'
                  exact ⟨HgA.out, 33, hTA, by decide, by decide⟩)
              have HT4 : Hid (Turn (fun _ => False) w2 ((wr.alloc (.cells (madeCells #[.bool false] q) 4)).setCell ⟨gA, k, none⟩ (.slice (some ⟨wr.heap.size, 0, none⟩) q q))) := (HT3.out.alloc _).trans tG (fun i hi e => by
                have e' : i = gA := e
                have h1 := HgA.out
                have h2 := HH.out
                omega)
              have HA3 : Hid (Ad ((wr.alloc (.cells (madeCells #[.bool false] q) 4)).setCell ⟨gA, k, none⟩ (.slice (some ⟨wr.heap.size, 0, none⟩) q q)) gA q (k + 1) (upd R k wr.heap.size) (fun _ _ => false)) := HA2
              clear HA2 tG hTA
              go_wp2_with fail
              go_roundg (q - (k + 1))
              case measure => omega
              case rel =>
                refine ⟨k + 1, upd R k wr.heap.size, by omega, rfl, val_int (by omega), HT4, HD2, HA3, fun v hv => ?_⟩
                by_cases e : v = k
                · rw [e, upd_same]; have h1 := HT3.out.size; have h2 := HH.out; omega
                · rw [upd_other _ _ e]; exact HR.out v (by omega)
            · have hd : decide ((k : Int) < (q : Int)) = false := by simp; omega
              obtain rfl : k = q := by omega
              have HD0 : Hid (Two wr H H gK k (GA fa fb 0) (GA fa fb 0) (fun _ => none) (fun _ => 0) (fun _ => none) (fun _ => 0)) := HD
              have HA0 : Hid (Ad wr gA k k R (fun u x => decide (x ∈ GA fa fb 0 u))) := HA.out.congr (fun u x _ _ => by simp [GA])
              obtain ⟨w3, hw3⟩ : ∃ w3, w3 = wr := ⟨_, rfl⟩
              rw [← hw3] at HT3 HD0 HA0 ⊢
              clear hw3 hk hgk hlt HD HA hm4
              go_wp2_with fail
              go_loopg [17] K (fun gk i wr => ∃ (j : Nat) (A : Nat → Option Addr) (C : Nat → Nat) (A' : Nat → Option Addr) (C' : Nat → Nat), j ≤ K ∧ gk = K - j ∧ i = .int .i64 j ∧ Hid (Turn (fun _ => False) w2 wr) ∧ Hid (Two wr H H gK k (GA fa fb j) (GA fa fb j) A C A' C') ∧ Hid (Ad wr gA k k R (fun u x => decide (x ∈ GA fa fb j u))))
              case atStart => exact ⟨0, _, _, _, _, Nat.zero_le _, rfl, rfl, HT3, HD0, HA0⟩
              case round =>
                clear HT3 HD0 HA0
                obtain ⟨j, A, C, A', C', hj, hgk, rfl, HT3, HD, HA⟩ := hrel
                by_cases hlt : j < K
                · as_aux_lemma =>
                  have hd : decide ((j : Int) < (K : Int)) = true := by simp; omega
                  have i0 : (0 : Int) ≤ (j : Int) := by omega
                  have i1 : (j : Int) < (K : Int) := by omega
                  obtain ⟨bt, ot, haA, hct⟩ := HcA.out (by omega)
                  subst haA
                  have yf := HT3.out.cell (HT.out.cell (hct j hlt).1 (fun y => y)) (fun y => y)
                  have yg := HT3.out.cell (HT.out.cell (hct j hlt).2 (fun y => y)) (fun y => y)
                  obtain ⟨zf0, zf1, zg0, zg1⟩ := HbA.out j hlt
                  obtain ⟨hfa, hfan⟩ := Hfa.out j
                  obtain ⟨hfb, hfbn⟩ := Hfb.out j
                  have Ha : Hid (zf j % (k : Int) = (fa j : Int)) := hfa
                  have Hb : Hid (zg j % (k : Int) = (fb j : Int)) := hfb
                  clear hfa hfb
                  go_upto_region 31 with fail
                  rw [Ha.out, Hb.out]
                  clear yf yg zf0 zf1 zg0 zg1
                  by_cases hab : fa j = fb j
                  · have hq1 : ((fa j : Int) == (fb j : Int)) = true := by simp; omega
                    have hs := GA_same hab
                    have HS : Hid (GA fa fb (j + 1) = GA fa fb j) := hs
                    clear hab hs
                    go_wp2_with fail
                    go_roundg (K - (j + 1))
                    case measure => omega
                    case rel => exact ⟨j + 1, A, C, A', C', by omega, rfl, val_int (by omega), HT3, by rw [HS.out]; exact HD, by rw [HS.out]; exact HA⟩
                  · have hq1 : ((fa j : Int) == (fb j : Int)) = false := by simp; omega
                    have hs := GA_next hab
                    have HS : Hid (GA fa fb (j + 1) = upd (GA fa fb j) (fa j) (GA fa fb j (fa j) ++ [fb j])) := hs
                    have HGm : Hid (∀ u x, decide (x ∈ GA fa fb (j + 1) u) = if u = fa j ∧ x = fb j then true else decide (x ∈ GA fa fb j u)) := fun u x => GA_mem fa fb j u x hab
                    obtain ⟨G, hG⟩ : ∃ G, G = GA fa fb j := ⟨_, rfl⟩
                    rw [← hG] at HD HA HS HGm
                    have hlen : (G (fa j)).length ≤ 65536 := by rw [hG]; have := GA_len fa fb j (fa j); omega
                    obtain ⟨a, hae⟩ : ∃ a, a = fa j := ⟨_, rfl⟩
                    obtain ⟨b, hbe⟩ : ∃ b, b = fb j := ⟨_, rfl⟩
                    rw [← hae, ← hbe] at HS HGm hq1
                    rw [← hae] at hfan hlen
                    rw [← hbe] at hfbn
                    rw [← hae, ← hbe]
                    clear hab hs hG hae hbe Ha Hb
                    have a0' : (0 : Int) ≤ (a : Int) := by omega
                    have a1' : (a : Int) < (k : Int) := by omega
                    have b0' : (0 : Int) ≤ (b : Int) := by omega
                    have b1' : (b : Int) < (k : Int) := by omega
                    have hHw : H ≤ wr.heap.size := by have h1 := HT3.out.size; have h2 := HH.out; omega
                    have Da : Hid (Two (wr.alloc (.cells #[.int .i64 (b : Int)] 3)) H H gK k G G A C A' C') := HD.out.turn ((Turn.refl _ _).alloc _)
                    have Aa : Hid (Ad (wr.alloc (.cells #[.int .i64 (b : Int)] 3)) gA k k R (fun u x => decide (x ∈ G u))) := HA.out.turn ((Turn.refl _ _).alloc _)
                    have Ta : Hid (Turn (fun _ => False) w2 (wr.alloc (.cells #[.int .i64 (b : Int)] 3))) := HT3.out.alloc _
                    obtain ⟨yl, fl⟩ := HD.out.s.cell (v := a) hfan
                    obtain ⟨yla, fla⟩ := Da.out.s.cell (v := a) hfan
                    have Hel : Hid (El (wr.alloc (.cells #[.int .i64 (b : Int)] 3)) H (A a) (G a) (C a)) := Da.out.s.el a hfan
                    have hHs : H ≤ (wr.alloc (.cells #[.int .i64 (b : Int)] 3)).heap.size := by simp; omega
                    have nR : ¬ (H ≤ H ∧ A a = some ⟨H, 0, none⟩) := fun e => HD.out.s.ty a hfan H e.2 rfl
                    have lR := Da.out.s.lt
                    clear HD HA HT3 hct
                    go_upto_region 33 with (at_builtin; refine wpList_append_el _ rfl (.tmp 150) (.tmp 152) rfl H (A a) (G a) (C a) rfl Hel.out wr.heap.size 1 b rfl (new_cell _ _ _) (by omega) hHs ?_; intro g' c' w5 e5 hg5 t5 l5 ty5; have y5 := t5.cell yla nR; have f5 : w5.frozen? ⟨H, a, none⟩ = false := (t5.frozen (p := ⟨H, a, none⟩) lR nR).trans fla)
                    obtain ⟨D6, A6, T6⟩ := Da.out.step Aa.out Ta.out HH.out hfan e5 hg5 t5 l5
                    generalize w5.setCell ⟨H, a, none⟩ (.slice (some ⟨g', 0, none⟩) ((G a).length + 1) c') = w6 at D6 A6 T6 ⊢
                    have HD6 : Hid (Two w6 H H gK k (upd G a (G a ++ [b])) G (upd A a (some ⟨g', 0, none⟩)) (upd C a c') A' C') := D6
                    have HA6 : Hid (Ad w6 gA k k R (fun u x => decide (x ∈ G u))) := A6
                    have HT6 : Hid (Turn (fun _ => False) w2 w6) := T6
                    clear D6 A6 T6 Da Aa Ta yl fl yla fla Hel hHs nR lR y5 f5 e5 hg5 t5 l5 ty5 hHw
                    have hHw : H ≤ w6.heap.size := by have h1 := HT6.out.size; have h2 := HH.out; omega
                    have Da : Hid (Two (w6.alloc (.cells #[.int .i64 (b : Int)] 3)) H gK H k G (upd G a (G a ++ [b])) A' C' (upd A a (some ⟨g', 0, none⟩)) (upd C a c')) := (HD6.out.turn ((Turn.refl _ _).alloc _)).symm
                    have Aa : Hid (Ad (w6.alloc (.cells #[.int .i64 (b : Int)] 3)) gA k k R (fun u x => decide (x ∈ G u))) := HA6.out.turn ((Turn.refl _ _).alloc _)
                    have Ta : Hid (Turn (fun _ => False) w2 (w6.alloc (.cells #[.int .i64 (b : Int)] 3))) := HT6.out.alloc _
                    obtain ⟨yl, fl⟩ := HD6.out.c.cell (v := a) hfan
                    obtain ⟨yla, fla⟩ := Da.out.s.cell (v := a) hfan
                    have Hel : Hid (El (w6.alloc (.cells #[.int .i64 (b : Int)] 3)) H (A' a) (G a) (C' a)) := Da.out.s.el a hfan
                    have hHs : H ≤ (w6.alloc (.cells #[.int .i64 (b : Int)] 3)).heap.size := by simp; omega
                    have nR : ¬ (H ≤ gK ∧ A' a = some ⟨gK, 0, none⟩) := fun e => HD6.out.c.ty a hfan gK e.2 rfl
                    have lR := Da.out.s.lt
                    go_upto_region 34 with (at_builtin; refine wpList_append_el _ rfl (.tmp 160) (.tmp 162) rfl H (A' a) (G a) (C' a) rfl Hel.out w6.heap.size 1 b rfl (new_cell _ _ _) (by omega) hHs ?_; intro g2 c2 w7 e7 hg7 t7 l7 ty7; have y7 := t7.cell yla nR; have f7 : w7.frozen? ⟨gK, a, none⟩ = false := (t7.frozen (p := ⟨gK, a, none⟩) lR nR).trans fla)
                    obtain ⟨D8, A8, T8⟩ := Da.out.step Aa.out Ta.out HH.out hfan e7 hg7 t7 l7
                    generalize w7.setCell ⟨gK, a, none⟩ (.slice (some ⟨g2, 0, none⟩) ((G a).length + 1) c2) = w8 at D8 A8 T8 ⊢
                    have HD8 : Hid (Two w8 H H gK k (upd G a (G a ++ [b])) (upd G a (G a ++ [b])) (upd A a (some ⟨g', 0, none⟩)) (upd C a c') (upd A' a (some ⟨g2, 0, none⟩)) (upd C' a c2)) := D8.symm
                    have HA8 : Hid (Ad w8 gA k k R (fun u x => decide (x ∈ G u))) := A8
                    have HT8 : Hid (Turn (fun _ => False) w2 w8) := T8
                    clear D8 A8 T8 Da Aa Ta yl fl yla fla Hel hHs nR lR y7 f7 e7 hg7 t7 l7 ty7 hHw HD6 HA6 HT6
                    have ya := HA8.out.at_ (v := a) hfan
                    have yb := HA8.out.cell (v := a) (x := b) hfan hfbn
                    have fb' : w8.frozen? ⟨R a, b, none⟩ = false := (HA8.out.el a hfan).frozen b
                    have tR : Turn (fun c => c = R a) w8 (w8.setCell ⟨R a, b, none⟩ (.bool true)) := (Turn.refl (fun c => c = R a) _).setCell (p := ⟨R a, b, none⟩) (.inr rfl) _
                    have hRa : H ≤ R a := HR.out a hfan
                    have HD9 : Hid (Two (w8.setCell ⟨R a, b, none⟩ (.bool true)) H H gK k (upd G a (G a ++ [b])) (upd G a (G a ++ [b])) (upd A a (some ⟨g', 0, none⟩)) (upd C a c') (upd A' a (some ⟨g2, 0, none⟩)) (upd C' a c2)) := HD8.out.keep tR (fun c hc => by
                      have hc' : c = R a := hc
                      subst hc'
                      exact ⟨hRa, 4, rowTy (HA8.out.el a hfan), by decide, by decide⟩)
                    have HA9 : Hid (Ad (w8.setCell ⟨R a, b, none⟩ (.bool true)) gA k k R (fun u x => if u = a ∧ x = b then true else decide (x ∈ G u))) := HA8.out.set hfan true
                    have HT9 : Hid (Turn (fun _ => False) w2 (w8.setCell ⟨R a, b, none⟩ (.bool true))) := HT8.out.trans tR (fun i hi e => by
                      have e' : i = R a := e
                      have h2 := HH.out
                      omega)
                    clear tR HD8 HA8 HT8
                    go_wp2_with fail
                    go_roundg (K - (j + 1))
                    case measure => omega
                    case rel => exact ⟨j + 1, _, _, _, _, by omega, rfl, val_int (by omega), HT9, by rw [HS.out]; exact HD9, HA9.out.congr (fun u x _ _ => (HGm.out u x).symm)⟩
                · have hd : decide ((j : Int) < (K : Int)) = false := by simp; omega
                  obtain rfl : j = K := by omega
                  obtain ⟨w4, hw4⟩ : ∃ w4, w4 = wr := ⟨_, rfl⟩
                  rw [← hw4] at HT3 HD HA ⊢
                  obtain ⟨G, hG⟩ : ∃ G, G = GA fa fb j := ⟨_, rfl⟩
                  rw [← hG] at HD HA
                  have HG1 : Hid (∀ v, (G v).length ≤ 65536) := fun v => by rw [hG]; have := GA_len fa fb j v; omega
                  have HG2 : Hid (∀ v, k ≤ v → G v = []) := fun v hv => by rw [hG]; exact GA_out (fun j => (Hfa.out j).2) j v hv
                  have HG3 : Hid (∀ v, ∀ x ∈ G v, x < k ∧ x ≠ v) := fun v => by rw [hG]; exact GA_in (fun j => (Hfb.out j).2) j v
                  clear hw4 hG hj hgk hlt
                  have hm3 := run_make_row' (P := Yba.prog) 36 3 (.int .i64 0) 8 Yba.underlying36 info3 rfl .i64 .i64 k (by omega) (by omega)
                  go_upto_region 37 with fail
                  have R1 : Hid (((w4.alloc (.cells (madeCells #[.int .i64 0] k) 3)).alloc (.cells (madeCells #[.int .i64 0] k) 3)).rowIs w4.heap.size 3 k (idF 0)) := ((World.rowIs_made w4 (.int .i64 0) k 3).alloc _).congr (fun j _ => by simp [idF])
                  have R2 : Hid (((w4.alloc (.cells (madeCells #[.int .i64 0] k) 3)).alloc (.cells (madeCells #[.int .i64 0] k) 3)).rowIs (w4.heap.size + 1) 3 k (idF 0)) := by
                    have h := World.rowIs_made (w4.alloc (.cells (madeCells #[.int .i64 0] k) 3)) (.int .i64 0) k 3
                    have e : (w4.alloc (.cells (madeCells #[.int .i64 0] k) 3)).heap.size = w4.heap.size + 1 := by simp
                    rw [e] at h
                    exact h.congr (fun j _ => by simp [idF])
                  have T5 : Hid (Turn (fun _ => False) w4 ((w4.alloc (.cells (madeCells #[.int .i64 0] k) 3)).alloc (.cells (madeCells #[.int .i64 0] k) 3))) := ((Turn.refl _ _).alloc _).alloc _
                  obtain ⟨gD, hgD⟩ : ∃ gD, gD = w4.heap.size := ⟨_, rfl⟩
                  obtain ⟨gT, hgT⟩ : ∃ gT, gT = w4.heap.size + 1 := ⟨_, rfl⟩
                  have HgD : Hid (w4.heap.size ≤ gD ∧ w4.heap.size ≤ gT ∧ gD ≠ gT) := ⟨by omega, by omega, by omega⟩
                  rw [← hgD] at R1
                  rw [← hgT] at R2
                  rw [← hgT, ← hgD]
                  generalize (w4.alloc (.cells (madeCells #[.int .i64 0] k) 3)).alloc (.cells (madeCells #[.int .i64 0] k) 3) = w5 at R1 R2 T5 ⊢
                  clear hm3 hgD hgT
                  go_wp2_with fail
                  go_loopg [22] k (fun gk i wr => ∃ p : Nat, p ≤ k ∧ gk = k - p ∧ i = .int .i64 p ∧ Hid (Turn (fun _ => False) w4 wr) ∧ Hid (wr.rowIs gD 3 k (idF p)) ∧ Hid (wr.rowIs gT 3 k (idF p)))
                  case atStart => exact ⟨0, Nat.zero_le _, rfl, rfl, T5, R1, R2⟩
                  case round =>
                    clear T5 R1 R2
                    obtain ⟨p, hp, hgk, rfl, HT5, HR1, HR2⟩ := hrel
                    by_cases hlt : p < k
                    · as_aux_lemma =>
                      have hd : decide ((p : Int) < (k : Int)) = true := by simp; omega
                      have i0 : (0 : Int) ≤ (p : Int) := by omega
                      have i1 : (p : Int) < (k : Int) := by omega
                      have y1 : wr.cell? ⟨gD, p, none⟩ = some _ := HR1.out.cell hlt
                      have y2 : wr.cell? ⟨gT, p, none⟩ = some _ := HR2.out.cell hlt
                      have f1 : wr.frozen? ⟨gD, p, none⟩ = false := HR1.out.frozen p
                      have f2 : wr.frozen? ⟨gT, p, none⟩ = false := HR2.out.frozen p
                      have hne := HgD.out.2.2
                      have t1 : Turn (fun c => c = gD) wr (wr.setCell ⟨gD, p, none⟩ (.int .i64 (p : Int))) := (Turn.refl (fun c => c = gD) _).setCell (p := ⟨gD, p, none⟩) (.inr rfl) _
                      have t2 : Turn (fun c => c = gT) (wr.setCell ⟨gD, p, none⟩ (.int .i64 (p : Int))) ((wr.setCell ⟨gD, p, none⟩ (.int .i64 (p : Int))).setCell ⟨gT, p, none⟩ (.int .i64 (p : Int))) := (Turn.refl (fun c => c = gT) _).setCell (p := ⟨gT, p, none⟩) (.inr rfl) _
                      have R1 : Hid (((wr.setCell ⟨gD, p, none⟩ (.int .i64 (p : Int))).setCell ⟨gT, p, none⟩ (.int .i64 (p : Int))).rowIs gD 3 k (idF (p + 1))) := t2.row (id_step HR1.out) hne
                      have R2 : Hid (((wr.setCell ⟨gD, p, none⟩ (.int .i64 (p : Int))).setCell ⟨gT, p, none⟩ (.int .i64 (p : Int))).rowIs gT 3 k (idF (p + 1))) := id_step (t1.row HR2.out (fun e => hne e.symm))
                      have T5 : Hid (Turn (fun _ => False) w4 ((wr.setCell ⟨gD, p, none⟩ (.int .i64 (p : Int))).setCell ⟨gT, p, none⟩ (.int .i64 (p : Int)))) := (HT5.out.setCell (p := ⟨gD, p, none⟩) (.inl HgD.out.1) _).setCell (p := ⟨gT, p, none⟩) (.inl HgD.out.2.1) _
                      clear t1 t2 HR1 HR2 HT5
                      go_wp2_with fail
                      go_roundg (k - (p + 1))
                      case measure => omega
                      case rel => exact ⟨p + 1, by omega, rfl, val_int (by omega), T5, R1, R2⟩
                    · have hd : decide ((p : Int) < (k : Int)) = false := by simp; omega
                      obtain rfl : p = k := by omega
                      obtain ⟨w5, hw5⟩ : ∃ w5, w5 = wr := ⟨_, rfl⟩
                      rw [← hw5] at HT5 HR1 HR2 ⊢
                      clear hw5 hp hgk hlt
                      go_upto_region 44 with fail
                      have T6 : Hid (Turn (fun _ => False) w5 ((w5.alloc (.cells #[.slice (some ⟨gT, 0, none⟩) p p, .int .i64 (p : Int), .int .i64 (-1), .slice (some ⟨gD, 0, none⟩) p p, .map none, .slice (some ⟨H, 0, none⟩) p p] 42)).alloc (.cells #[.slice (some ⟨gO, 0, none⟩) m m, .pointer (some ⟨w5.heap.size, 0, none⟩), .slice none 0 0, .slice (some ⟨gP, 0, none⟩) p p, .slice none 0 0, .int .i64 0, .slice none 0 0] 46))) := ((Turn.refl _ _).alloc _).alloc _
                      obtain ⟨hGb, hCb⟩ := two_allocs w5 (.cells #[.slice (some ⟨gT, 0, none⟩) p p, .int .i64 (p : Int), .int .i64 (-1), .slice (some ⟨gD, 0, none⟩) p p, .map none, .slice (some ⟨H, 0, none⟩) p p] 42) (.cells #[.slice (some ⟨gO, 0, none⟩) m m, .pointer (some ⟨w5.heap.size, 0, none⟩), .slice none 0 0, .slice (some ⟨gP, 0, none⟩) p p, .slice none 0 0, .int .i64 0, .slice none 0 0] 46)
                      obtain ⟨Cb, hCbe⟩ : ∃ Cb, Cb = w5.heap.size + 1 := ⟨_, rfl⟩
                      obtain ⟨Gb, hGbe⟩ : ∃ Gb, Gb = w5.heap.size := ⟨_, rfl⟩
                      rw [← hCbe] at hCb
                      rw [← hGbe] at hGb hCb T6
                      rw [← hCbe, ← hGbe]
                      generalize (w5.alloc (.cells #[.slice (some ⟨gT, 0, none⟩) p p, .int .i64 (p : Int), .int .i64 (-1), .slice (some ⟨gD, 0, none⟩) p p, .map none, .slice (some ⟨H, 0, none⟩) p p] 42)).alloc (.cells #[.slice (some ⟨gO, 0, none⟩) m m, .pointer (some ⟨Gb, 0, none⟩), .slice none 0 0, .slice (some ⟨gP, 0, none⟩) p p, .slice none 0 0, .int .i64 0, .slice none 0 0] 46) = w6 at hGb hCb T6 ⊢
                      have T46 : Turn (fun _ => False) w4 w6 := HT5.out.trans T6.out (fun _ _ y => y)
                      have T26 : Turn (fun _ => False) w2 w6 := HT3.out.trans T46 (fun _ _ y => y)
                      have hCl := mkCl hGb hCb (T26.row HO.out (fun y => y)) (T26.row HP.out (fun y => y)) (T6.out.row HR1.out (fun y => y)) (HD.out.turn T46)
                      have hord := order_any Cb Gb gO gP gD H p m m G A C (FI tx m) (LA tx m) tx w6 hCl n0 (by omega) hL (Nat.le_refl _) HG1.out HG2.out (fun v _ => HG3.out v) (fun i _ => (Htx.out i).2) (fun v i h => LA_at tx h) (fun v => by have := FI_ge tx m v; omega)
                      have hci := chain_iff (n := p) (L := m) (G := G) (fi := FI tx m) (la := LA tx m) (tx := tx) (fun v _ => HG3.out v) (fun i _ => (Htx.out i).2) (fun v i h => FI_at tx h) (fun v i h => LA_at tx h) (fun v => (FI_ge tx m v).2.2.2.2)
                      have Hci : Hid ((∃ r, RkB (bld p G (FI tx m) (LA tx m) tx m) r) ↔ ∃ r, Rk p (adjP G (FI tx m) (LA tx m)) r) := hci
                      have H26 : Hid (Turn (fun _ => False) w2 w6) := T26
                      have H46 : Hid (Turn (fun _ => False) w4 w6) := T46
                      have H5c : Hid (w6.cell? ⟨Gb, 5, none⟩ = some (.slice (some ⟨H, 0, none⟩) p p)) := hCl.g5
                      clear hCl hci T26 T46 hGb hCb hCbe hGbe T6 HT5
                      go_upto_region 45 with (go_at_call 4; refine hord.mono ?_; rintro e w7 ⟨fl, rfl, t7, i7⟩)
                      have HF : Hid (fl = true ↔ ∃ r, Rk p (adjP G (FI tx m) (LA tx m)) r) := i7.trans Hci.out
                      have HD7 : Hid (Two w7 H H gK p G G A C A' C') := HD.out.turn (H46.out.trans t7 (fun _ _ y => y))
                      have HA7 : Hid (Ad w7 gA p p R (fun u x => decide (x ∈ G u))) := HA.out.turn (H46.out.trans t7 (fun _ _ y => y))
                      have HP7 : Hid (w7.rowIs gP 27 (p * 2) (spF (FI tx m) (LA tx m))) := (H26.out.trans t7 (fun _ _ y => y)).row HP.out (fun y => y)
                      have HT7 : Hid (Turn (fun _ => False) w w7) := HT.out.trans (H26.out.trans t7 (fun _ _ y => y)) (fun _ _ y => y)
                      have y5 : w7.cell? ⟨Gb, 5, none⟩ = some (.slice (some ⟨H, 0, none⟩) p p) := t7.cell H5c.out (fun y => y)
                      clear hord Hci i7 t7 H26 H46 H5c HD HA HP HO HR1 HR2 HT3
                      have hpp : ((p : Int) != (p : Int)) = false := by simp
                      go_wp2_with fail
                      go_loopg [26] p (fun gk i wr => ∃ v : Nat, v ≤ p ∧ gk = p - v ∧ i = .int .i64 v ∧ Hid (Turn (fun _ => False) w7 wr))
                      case atStart => exact ⟨0, Nat.zero_le _, rfl, rfl, Turn.refl _ _⟩
                      case round =>
                        obtain ⟨v, hv, hgk, rfl, HT8⟩ := hrel
                        by_cases hlt : v < p
                        · have hd : decide ((v : Int) < (p : Int)) = true := by simp; omega
                          have i0 : (0 : Int) ≤ (v : Int) := by omega
                          have i1 : (v : Int) < (p : Int) := by omega
                          have y8 := HT8.out.cell y5 (fun y => y)
                          have D8 := HD7.out.turn HT8.out
                          obtain ⟨ys, rs⟩ := D8.reads hlt
                          obtain ⟨yk, rk⟩ := D8.symm.reads hlt
                          have Hrs : Hid (Reads wr (A v) (G v).length (fun j => (G v).getD j 0)) := rs
                          have Hrk : Hid (Reads wr (A' v) (G v).length (fun j => (G v).getD j 0)) := rk
                          have hGl := HG1.out v
                          obtain ⟨l, hl⟩ : ∃ l, l = (G v).length := ⟨_, rfl⟩
                          obtain ⟨z, hz⟩ : ∃ z : Nat → Nat, z = (fun j => (G v).getD j 0) := ⟨_, rfl⟩
                          rw [← hl] at ys yk hGl Hrs Hrk
                          rw [← hz] at Hrs Hrk
                          have hll : ((l : Int) != (l : Int)) = false := by simp
                          clear D8 rs rk hl hz
                          go_upto_region 50 with fail
                          go_quiet (fail)
                          generalize hwq : wr.drewN _ = w8
                          have T8 : Hid (Turn (fun _ => False) w7 w8) := by rw [← hwq]; exact HT8.out.drewN _
                          have ys8 : w8.cell? ⟨H, v, none⟩ = some (.slice (A v) l (C v)) := by rw [← hwq]; exact ys
                          have yk8 : w8.cell? ⟨gK, v, none⟩ = some (.slice (A' v) l (C' v)) := by rw [← hwq]; exact yk
                          have yg8 : w8.cell? ⟨Gb, 5, none⟩ = some (.slice (some ⟨H, 0, none⟩) p p) := by rw [← hwq]; exact y8
                          have Hrs8 : Hid (Reads w8 (A v) l z) := by rw [← hwq]; exact Hrs.out
                          have Hrk8 : Hid (Reads w8 (A' v) l z) := by rw [← hwq]; exact Hrk.out
                          clear hwq ys yk y8 Hrs Hrk HT8
                          go_wp2_with fail
                          go_loopg [27] l (fun gk i wr => ∃ t : Nat, t ≤ l ∧ gk = l - t ∧ i = .int .i64 t ∧ Hid (Turn (fun _ => False) w8 wr))
                          case atStart => exact ⟨0, Nat.zero_le _, rfl, rfl, Turn.refl _ _⟩
                          case round =>
                            obtain ⟨t, ht, hgt, rfl, HT9⟩ := hrel
                            have ys := HT9.out.cell ys8 (fun y => y)
                            have yk := HT9.out.cell yk8 (fun y => y)
                            have yg := HT9.out.cell yg8 (fun y => y)
                            clear ys8 yk8 yg8
                            by_cases hlt2 : t < l
                            · as_aux_lemma =>
                              have hd2 : decide ((t : Int) < (l : Int)) = true := by simp; omega
                              have t0 : (0 : Int) ≤ (t : Int) := by omega
                              have t1 : (t : Int) < (l : Int) := by omega
                              obtain ⟨bb, ob, eb, cb⟩ := Hrs8.out (by omega)
                              obtain ⟨bc, oc, ec, cc⟩ := Hrk8.out (by omega)
                              have q1 := HT9.out.cell (cb t hlt2) (fun y => y)
                              have q2 := HT9.out.cell (cc t hlt2) (fun y => y)
                              rw [eb] at ys
                              rw [ec] at yk
                              have hzz : ((z t : Int) != (z t : Int)) = false := by simp
                              clear cb cc eb ec
                              go_upto_region 55 with fail
                              go_quiet (fail)
                              go_wp2_with fail
                              go_roundg (l - (t + 1))
                              case measure => omega
                              case rel => exact ⟨t + 1, by omega, rfl, val_int (by omega), HT9.out.drewN _⟩
                            · as_aux_lemma =>
                              have hd2 : decide ((t : Int) < (l : Int)) = false := by simp; omega
                              have HT10 : Hid (Turn (fun _ => False) w7 wr) := T8.out.trans HT9.out (fun _ _ y => y)
                              go_wp2_with fail
                              go_roundg (p - (v + 1))
                              case measure => omega
                              case rel => exact ⟨v + 1, by omega, rfl, val_int (by omega), HT10⟩
                        · have hd : decide ((v : Int) < (p : Int)) = false := by simp; omega
                          obtain rfl : v = p := by omega
                          obtain ⟨fi, hfi⟩ : ∃ fi, fi = FI tx m := ⟨_, rfl⟩
                          obtain ⟨la, hla⟩ : ∃ la, la = LA tx m := ⟨_, rfl⟩
                          have HB : Hid (∀ x, -1 ≤ fi x ∧ fi x ≤ 65536 ∧ -1 ≤ la x ∧ la x ≤ 65536) := fun x => by rw [hfi, hla]; have := FI_ge tx m x; omega
                          have Hself : Hid (∀ x, adjP G fi la x x = false) := fun x => by rw [hfi, hla]; exact adjP_self (n := v) HG3.out x
                          have HA8 : Hid (Ad wr gA v v R (mS G fi la 0 0)) := (HA7.out.turn HT8.out).congr (fun u x _ _ => (mS_start G fi la u x).symm)
                          have HP8 : Hid (wr.rowIs gP 27 (v * 2) (spF fi la)) := by rw [hfi, hla]; exact HT8.out.row HP7.out (fun y => y)
                          have HT9 : Hid (Turn (fun _ => False) w wr) := HT7.out.trans HT8.out (fun _ _ y => y)
                          have HRw : Hid (∀ x, x < v → w.heap.size ≤ R x) := fun x hx => by have h1 := HR.out x hx; have h2 := HH.out; have h3 := HT.out.size; omega
                          rw [← hfi, ← hla] at HF
                          obtain ⟨w8, hw8⟩ : ∃ w8, w8 = wr := ⟨_, rfl⟩
                          rw [← hw8] at HA8 HP8 HT9 ⊢
                          clear hw8 hfi hla hv hgk hlt HT8 HT7 HP7 HA7 HD7 y5 hpp HR HH HG1 HG2 HG3
                          go_wp2_with fail
                          go_loopg [28] v (fun gk i wr => ∃ u : Nat, u ≤ v ∧ gk = v - u ∧ i = .int .i64 u ∧ Hid (Turn (fun _ => False) w wr) ∧ Hid (Ad wr gA v v R (mS G fi la u 0)) ∧ Hid (wr.rowIs gP 27 (v * 2) (spF fi la)))
                          case atStart => exact ⟨0, Nat.zero_le _, rfl, rfl, HT9, HA8, HP8⟩
                          case round =>
                            clear HT9 HA8 HP8
                            obtain ⟨u, hu, hgk, rfl, HT9, HA9, HP9⟩ := hrel
                            by_cases hlt : u < v
                            · have hd : decide ((u : Int) < (v : Int)) = true := by simp; omega
                              have i0 : (0 : Int) ≤ (u : Int) := by omega
                              have i1 : (u : Int) < (v : Int) := by omega
                              go_wp2_with fail
                              go_loopg [29] v (fun gk i wr => ∃ x : Nat, x ≤ v ∧ gk = v - x ∧ i = .int .i64 x ∧ Hid (Turn (fun _ => False) w wr) ∧ Hid (Ad wr gA v v R (mS G fi la u x)) ∧ Hid (wr.rowIs gP 27 (v * 2) (spF fi la)))
                              case atStart => exact ⟨0, Nat.zero_le _, rfl, rfl, HT9, HA9, HP9⟩
                              case round =>
                                clear HT9 HA9 HP9
                                obtain ⟨x, hx, hgx, rfl, HT9, HA9, HP9⟩ := hrel
                                by_cases hlt2 : x < v
                                · have hd2 : decide ((x : Int) < (v : Int)) = true := by simp; omega
                                  have x0 : (0 : Int) ≤ (x : Int) := by omega
                                  have x1 : (x : Int) < (v : Int) := by omega
                                  obtain ⟨pu0, pu1⟩ := sp0 HP9.out hlt
                                  obtain ⟨px0, px1⟩ := sp0 HP9.out hlt2
                                  have hbu := HB.out u
                                  have hbx := HB.out x
                                  go_upto_region 63 with fail
                                  go_cut [291] from 265 to 290 (fun s wx => s = .bool (cond fi la u x) ∧ ∃ nq, wx = wr.drewN nq)
                                  case first =>
                                    as_aux_lemma =>
                                    by_cases c1 : 0 ≤ fi u
                                    · have e1 : decide (0 ≤ fi u) = true := by simp [c1]
                                      by_cases c2 : 0 ≤ fi x
                                      · have e2 : decide (0 ≤ fi x) = true := by simp [c2]
                                        by_cases c3 : la u < fi x
                                        · have e3 : decide (la u < fi x) = true := by simp [c3]
                                          have HE : Hid (cond fi la u x = true) := by show cond fi la u x = true; simp only [cond, e1, e2, e3, Bool.and_true]
                                          clear c1 c2 c3
                                          go_quiet (fail)
                                          go_wp2_with fail
                                          go_meet
                                          case rel => exact ⟨by rw [HE.out], _, rfl⟩
                                        · have e3 : decide (la u < fi x) = false := by simp; omega
                                          have HE : Hid (cond fi la u x = false) := by show cond fi la u x = false; simp only [cond, e1, e2, e3, Bool.and_false]
                                          clear c1 c2 c3
                                          go_quiet (fail)
                                          go_wp2_with fail
                                          go_meet
                                          case rel => exact ⟨by rw [HE.out], _, rfl⟩
                                      · have e2 : decide (0 ≤ fi x) = false := by simp; omega
                                        have HE : Hid (cond fi la u x = false) := by show cond fi la u x = false; simp only [cond, e1, e2, Bool.and_false, Bool.false_and]
                                        clear c1 c2
                                        go_quiet (fail)
                                        go_wp2_with fail
                                        go_meet
                                        case rel => exact ⟨by rw [HE.out], _, rfl⟩
                                    · have e1 : decide (0 ≤ fi u) = false := by simp; omega
                                      have HE : Hid (cond fi la u x = false) := by show cond fi la u x = false; simp only [cond, e1, Bool.false_and]
                                      clear c1
                                      go_quiet (fail)
                                      go_wp2_with fail
                                      go_meet
                                      case rel => exact ⟨by rw [HE.out], _, rfl⟩
                                  case rest =>
                                    obtain ⟨rfl, nq, hwc⟩ := hcut
                                    obtain ⟨w9, hw9⟩ : ∃ w9 : World, w9 = wc := ⟨_, rfl⟩
                                    have HA10 : Hid (Ad w9 gA v v R (mS G fi la u x)) := by rw [hw9, hwc]; exact HA9.out.turn ((Turn.refl _ _).drewN _)
                                    have HP10 : Hid (w9.rowIs gP 27 (v * 2) (spF fi la)) := by rw [hw9, hwc]; exact ((Turn.refl (fun _ => False) _).drewN _).row HP9.out (fun y => y)
                                    have HT10 : Hid (Turn (fun _ => False) w w9) := by rw [hw9, hwc]; exact HT9.out.drewN _
                                    rw [← hw9]
                                    clear hw9 hwc HA9 HP9 HT9 pu0 pu1 px0 px1 hbu hbx
                                    have ya := HA10.out.at_ (v := u) hlt
                                    have yb := HA10.out.cell (v := u) (x := x) hlt hlt2
                                    have fR : w9.frozen? ⟨R u, x, none⟩ = false := (HA10.out.el u hlt).frozen x
                                    cases hc : cond fi la u x with
                                    | true =>
                                      as_aux_lemma =>
                                      have HA11 : Hid (Ad (w9.setCell ⟨R u, x, none⟩ (.bool true)) gA v v R (mS G fi la u (x + 1))) := (HA10.out.set (a := u) (b := x) hlt true).congr (fun u' x' _ _ => by
                                        rw [mS_step]
                                        by_cases e : u' = u ∧ x' = x
                                        · rw [if_pos e, if_pos e, hc, Bool.or_true]
                                        · rw [if_neg e, if_neg e])
                                      have tR : Turn (fun c => c = R u) w9 (w9.setCell ⟨R u, x, none⟩ (.bool true)) := (Turn.refl (fun c => c = R u) _).setCell (p := ⟨R u, x, none⟩) (.inr rfl) _
                                      have HP11 : Hid ((w9.setCell ⟨R u, x, none⟩ (.bool true)).rowIs gP 27 (v * 2) (spF fi la)) := tR.row HP10.out (fun e => (rowTy HP10.out).ne (rowTy (HA10.out.el u hlt)) (by decide) e)
                                      have HT11 : Hid (Turn (fun _ => False) w (w9.setCell ⟨R u, x, none⟩ (.bool true))) := HT10.out.setCell (p := ⟨R u, x, none⟩) (.inl (HRw.out u hlt)) _
                                      clear tR hc HA10 HP10 HT10
                                      go_wp2_with fail
                                      go_roundg (v - (x + 1))
                                      case measure => omega
                                      case rel => exact ⟨x + 1, by omega, rfl, val_int (by omega), HT11, HA11, HP11⟩
                                    | false =>
                                      as_aux_lemma =>
                                      have HA11 : Hid (Ad w9 gA v v R (mS G fi la u (x + 1))) := HA10.out.congr (fun u' x' _ _ => by
                                        rw [mS_step]
                                        by_cases e : u' = u ∧ x' = x
                                        · rw [if_pos e, hc, Bool.or_false]
                                        · rw [if_neg e])
                                      clear hc HA10
                                      go_wp2_with fail
                                      go_roundg (v - (x + 1))
                                      case measure => omega
                                      case rel => exact ⟨x + 1, by omega, rfl, val_int (by omega), HT10, HA11, HP10⟩
                                · as_aux_lemma =>
                                  have hd2 : decide ((x : Int) < (v : Int)) = false := by simp; omega
                                  obtain rfl : x = v := by omega
                                  have HA10 : Hid (Ad wr gA x x R (mS G fi la (u + 1) 0)) := HA9.out.congr (fun u' x' _ hx' => mS_row G fi la u u' x' hx')
                                  go_wp2_with fail
                                  go_roundg (x - (u + 1))
                                  case measure => omega
                                  case rel => exact ⟨u + 1, by omega, rfl, val_int (by omega), HT9, HA10, HP9⟩
                            · have hd : decide ((u : Int) < (v : Int)) = false := by simp; omega
                              obtain rfl : u = v := by omega
                              obtain ⟨adj, hadj⟩ : ∃ adj, adj = adjP G fi la := ⟨_, rfl⟩
                              have HA10 : Hid (Ad wr gA u u R adj) := HA9.out.congr (fun u' x' hu' _ => by rw [hadj]; exact mS_end G fi la hu')
                              rw [← hadj] at HF Hself
                              obtain ⟨w9, hw9⟩ : ∃ w9, w9 = wr := ⟨_, rfl⟩
                              rw [← hw9] at HA10 HT9 ⊢
                              clear hw9 hadj hu hgk hlt HA9 HP9 HB
                              have hm3 := run_make_row' (P := Yba.prog) 36 3 (.int .i64 0) 8 Yba.underlying36 info3 rfl .i64 .i64 u (by omega) (by omega)
                              go_upto_region 66 with fail
                              have R1 : Hid ((w9.alloc (.cells (madeCells #[.int .i64 0] u) 3)).rowIs w9.heap.size 3 u (fun x => .int .i64 (iS adj 0 0 x : Nat))) := (World.rowIs_made w9 (.int .i64 0) u 3).congr (fun j _ => by rw [iS_start]; rfl)
                              have A1 : Hid (Ad (w9.alloc (.cells (madeCells #[.int .i64 0] u) 3)) gA u u R adj) := HA10.out.turn ((Turn.refl _ _).alloc _)
                              have T1 : Hid (Turn (fun _ => False) w (w9.alloc (.cells (madeCells #[.int .i64 0] u) 3))) := HT9.out.alloc _
                              obtain ⟨gI, hgI⟩ : ∃ gI, gI = w9.heap.size := ⟨_, rfl⟩
                              have HgI : Hid (w.heap.size ≤ gI) := by have := HT9.out.size; show w.heap.size ≤ gI; omega
                              rw [← hgI] at R1 ⊢
                              generalize w9.alloc (.cells (madeCells #[.int .i64 0] u) 3) = w10 at R1 A1 T1 ⊢
                              clear hm3 hgI HA10 HT9
                              go_wp2_with fail
                              go_loopg [31] u (fun gk i wr => ∃ y : Nat, y ≤ u ∧ gk = u - y ∧ i = .int .i64 y ∧ Hid (Turn (fun _ => False) w wr) ∧ Hid (Ad wr gA u u R adj) ∧ Hid (wr.rowIs gI 3 u (fun x => .int .i64 (iS adj y 0 x : Nat))))
                              case atStart => exact ⟨0, Nat.zero_le _, rfl, rfl, T1, A1, R1⟩
                              case round =>
                                clear T1 A1 R1
                                obtain ⟨y, hy, hgk, rfl, HT10, HA10, HI⟩ := hrel
                                by_cases hlt : y < u
                                · have hd : decide ((y : Int) < (u : Int)) = true := by simp; omega
                                  have i0 : (0 : Int) ≤ (y : Int) := by omega
                                  have i1 : (y : Int) < (u : Int) := by omega
                                  go_wp2_with fail
                                  go_loopg [32] u (fun gk i wr => ∃ x : Nat, x ≤ u ∧ gk = u - x ∧ i = .int .i64 x ∧ Hid (Turn (fun _ => False) w wr) ∧ Hid (Ad wr gA u u R adj) ∧ Hid (wr.rowIs gI 3 u (fun z => .int .i64 (iS adj y x z : Nat))))
                                  case atStart => exact ⟨0, Nat.zero_le _, rfl, rfl, HT10, HA10, HI⟩
                                  case round =>
                                    clear HT10 HA10 HI
                                    obtain ⟨x, hx, hgx, rfl, HT10, HA10, HI⟩ := hrel
                                    by_cases hlt2 : x < u
                                    · have hd2 : decide ((x : Int) < (u : Int)) = true := by simp; omega
                                      have x0 : (0 : Int) ≤ (x : Int) := by omega
                                      have x1 : (x : Int) < (u : Int) := by omega
                                      have ya := HA10.out.at_ (v := y) hlt
                                      have yb := HA10.out.cell (v := y) (x := x) hlt hlt2
                                      have yi : wr.cell? ⟨gI, x, none⟩ = some (.int .i64 (iS adj y x x : Nat)) := HI.out.cell hlt2
                                      have fI : wr.frozen? ⟨gI, x, none⟩ = false := HI.out.frozen x
                                      have hil := iS_le adj y x x
                                      cases hc : adj y x with
                                      | true =>
                                        as_aux_lemma =>
                                        rw [hc] at yb
                                        have HI2 : Hid ((wr.setCell ⟨gI, x, none⟩ (.int .i64 ((iS adj y x x + 1 : Nat) : Int))).rowIs gI 3 u (fun z => .int .i64 (iS adj y (x + 1) z : Nat))) := row_put HI.out x _ _ (fun z _ => by
                                          rw [iS_step]
                                          by_cases e : z = x
                                          · rw [if_pos e, if_pos e, e, hc]; rfl
                                          · rw [if_neg e, if_neg e])
                                        have tI : Turn (fun c => c = gI) wr (wr.setCell ⟨gI, x, none⟩ (.int .i64 ((iS adj y x x + 1 : Nat) : Int))) := (Turn.refl (fun c => c = gI) _).setCell (p := ⟨gI, x, none⟩) (.inr rfl) _
                                        have HA11 : Hid (Ad (wr.setCell ⟨gI, x, none⟩ (.int .i64 ((iS adj y x x + 1 : Nat) : Int))) gA u u R adj) := HA10.out.keep tI (fun c hc' => by
                                          have hc2 : c = gI := hc'
                                          subst hc2
                                          exact .inl (rowTy HI.out))
                                        have HT11 : Hid (Turn (fun _ => False) w (wr.setCell ⟨gI, x, none⟩ (.int .i64 ((iS adj y x x + 1 : Nat) : Int)))) := HT10.out.setCell (p := ⟨gI, x, none⟩) (.inl HgI.out) _
                                        obtain ⟨vv, hvv⟩ : ∃ vv, vv = iS adj y x x := ⟨_, rfl⟩
                                        rw [← hvv] at HI2 HA11 HT11 yi hil
                                        have e1 : ((vv + 1 : Nat) : Int) = (vv : Int) + 1 := by omega
                                        rw [e1] at HI2 HA11 HT11
                                        clear tI hc HI HA10 HT10 hvv e1
                                        go_wp2_with fail
                                        go_roundg (u - (x + 1))
                                        case measure => omega
                                        case rel => exact ⟨x + 1, by omega, rfl, val_int (by omega), HT11, HA11, HI2⟩
                                      | false =>
                                        as_aux_lemma =>
                                        rw [hc] at yb
                                        have HI2 : Hid (wr.rowIs gI 3 u (fun z => .int .i64 (iS adj y (x + 1) z : Nat))) := HI.out.congr (fun z _ => by
                                          rw [iS_step]
                                          by_cases e : z = x
                                          · rw [if_pos e, e, hc]; rfl
                                          · rw [if_neg e])
                                        clear hc HI
                                        go_wp2_with fail
                                        go_roundg (u - (x + 1))
                                        case measure => omega
                                        case rel => exact ⟨x + 1, by omega, rfl, val_int (by omega), HT10, HA10, HI2⟩
                                    · as_aux_lemma =>
                                      have hd2 : decide ((x : Int) < (u : Int)) = false := by simp; omega
                                      obtain rfl : x = u := by omega
                                      have HI2 : Hid (wr.rowIs gI 3 x (fun z => .int .i64 (iS adj (y + 1) 0 z : Nat))) := HI.out.congr (fun z hz => by rw [iS_row adj y z hz])
                                      go_wp2_with fail
                                      go_roundg (x - (y + 1))
                                      case measure => omega
                                      case rel => exact ⟨y + 1, by omega, rfl, val_int (by omega), HT10, HA10, HI2⟩
                                · have hd : decide ((y : Int) < (u : Int)) = false := by simp; omega
                                  obtain rfl : y = u := by omega
                                  have hm4 := run_make_row' (P := Yba.prog) 33 4 (.bool false) 1 Yba.underlying33 info4 rfl .i64 .i64 y (by omega) (by omega)
                                  have HK0 : Hid (KI y adj (fun _ => false) (fun x => ((iS adj y 0 x : Nat) : Int)) 0 (fun _ => 0)) := KI.start y adj _ (fun x _ => by rw [iS_end])
                                  have HI0 : Hid (wr.rowIs gI 3 y (fun x => .int .i64 (((iS adj y 0 x : Nat) : Int)))) := HI
                                  obtain ⟨ind, hind⟩ : ∃ ind : Nat → Int, ind = (fun x => ((iS adj y 0 x : Nat) : Int)) := ⟨_, rfl⟩
                                  rw [← hind] at HK0
                                  have HI1 : Hid (wr.rowIs gI 3 y (fun x => .int .i64 (ind x))) := by rw [hind]; exact HI0
                                  obtain ⟨w11, hw11⟩ : ∃ w11, w11 = wr := ⟨_, rfl⟩
                                  rw [← hw11] at HA10 HT10 HI1 ⊢
                                  clear hw11 hind HI HI0 hy hgk hlt
                                  go_upto_region 75 with fail
                                  have M1 : Hid ((w11.alloc (.cells (madeCells #[.bool false] y) 4)).rowIs w11.heap.size 4 y (fun _ => .bool false)) := World.rowIs_made w11 (.bool false) y 4
                                  have A1 : Hid (Ad (w11.alloc (.cells (madeCells #[.bool false] y) 4)) gA y y R adj) := HA10.out.turn ((Turn.refl _ _).alloc _)
                                  have I1 : Hid ((w11.alloc (.cells (madeCells #[.bool false] y) 4)).rowIs gI 3 y (fun x => .int .i64 (ind x))) := HI1.out.alloc _
                                  have T1 : Hid (Turn (fun _ => False) w (w11.alloc (.cells (madeCells #[.bool false] y) 4))) := HT10.out.alloc _
                                  obtain ⟨gM, hgM⟩ : ∃ gM, gM = w11.heap.size := ⟨_, rfl⟩
                                  have HgM : Hid (w.heap.size ≤ gM) := by have := HT10.out.size; show w.heap.size ≤ gM; omega
                                  have HMR : Hid (∀ x, x < y → R x ≠ gM) := fun x hx => by have := (HA10.out.el x hx).lt; omega
                                  rw [← hgM] at M1 ⊢
                                  generalize w11.alloc (.cells (madeCells #[.bool false] y) 4) = w12 at M1 A1 I1 T1 ⊢
                                  clear hm4 hgM HA10 HT10 HI1
                                  go_wp2_with fail
                                  go_loopg [34, 35] y (fun gk s34 s35 wr => ∃ (c : Nat) (rm : Nat → Bool) (ind : Nat → Int) (rk : Nat → Nat), c ≤ y ∧ gk = y - c ∧ s34 = .int .i64 c ∧ s35 = .int .i64 c ∧ Hid (KI y adj rm ind c rk) ∧ Hid (Turn (fun _ => False) w wr) ∧ Hid (Ad wr gA y y R adj) ∧ Hid (wr.rowIs gI 3 y (fun x => .int .i64 (ind x))) ∧ Hid (wr.rowIs gM 4 y (fun x => .bool (rm x))))
                                  case atStart => exact ⟨0, fun _ => false, ind, fun _ => 0, Nat.zero_le _, rfl, rfl, rfl, HK0, T1, A1, I1, M1⟩
                                  case round =>
                                    clear T1 A1 I1 M1 HK0
                                    obtain ⟨c, rm, ind, rk, hc, hgk, rfl, rfl, HKI, HT1, HA1, HI1, HM1⟩ := hrel
                                    by_cases hlt : c < y
                                    · have hd : decide ((c : Int) < (y : Int)) = true := by simp; omega
                                      go_wp2_with fail
                                      go_loopg [36, 37] y (fun gk s36 s37 wq => ∃ x : Nat, x ≤ y ∧ gk = y - x ∧ s36 = .int .i64 (-1) ∧ s37 = .int .i64 x ∧ Hid (∀ z, z < x → rm z = false → ind z ≠ 0) ∧ wq = wr)
                                      case atStart => exact ⟨0, Nat.zero_le _, rfl, rfl, rfl, fun z hz => absurd hz (by omega), rfl⟩
                                      case round =>
                                        obtain ⟨x, hx, hgx, rfl, rfl, HN, hwq⟩ := hrel
                                        subst hwq
                                        by_cases hlt2 : x < y
                                        · have hd2 : decide ((x : Int) < (y : Int)) = true := by simp; omega
                                          have x0 : (0 : Int) ≤ (x : Int) := by omega
                                          have x1 : (x : Int) < (y : Int) := by omega
                                          have ym := HM1.out.cell (i := x) hlt2
                                          have yi := HI1.out.cell (i := x) hlt2
                                          have fM : ∀ t, World.frozen? _ ⟨gM, t, none⟩ = false := fun t => HM1.out.frozen t
                                          cases hr : rm x with
                                          | true =>
                                            as_aux_lemma =>
                                            rw [hr] at ym
                                            have HN2 : Hid (∀ z, z < x + 1 → rm z = false → ind z ≠ 0) := fun z hz h1 => by
                                              by_cases e : z = x
                                              · rw [e, hr] at h1; cases h1
                                              · exact HN.out z (by omega) h1
                                            clear hr
                                            go_wp2_with fail
                                            go_roundg (y - (x + 1))
                                            case measure => omega
                                            case rel => exact ⟨x + 1, by omega, rfl, rfl, val_int (by omega), HN2, rfl⟩
                                          | false =>
                                            rw [hr] at ym
                                            by_cases hz : ind x = 0
                                            · rw [hz] at yi
                                              have hq0 : decide ((x : Int) < 0) = false := by simp
                                              have HR0 : Hid (rm x = false ∧ ind x = 0) := ⟨hr, hz⟩
                                              clear hr hz
                                              have HKn : Hid (∀ t, t < y → 0 ≤ ind t ∧ ind t ≤ 12) := fun t ht => by
                                                have h1 := HKI.out.ind t ht
                                                have h2 := cntB_le (fun u => !rm u && adj u t) y
                                                omega
                                              have M2 : Hid ((wr.setCell ⟨gM, x, none⟩ (.bool true)).rowIs gM 4 y (fun t => .bool (upd rm x true t))) := row_put HM1.out x _ _ (fun t _ => by unfold upd; split <;> rfl)
                                              have tM : Turn (fun c => c = gM) wr (wr.setCell ⟨gM, x, none⟩ (.bool true)) := (Turn.refl (fun c => c = gM) _).setCell (p := ⟨gM, x, none⟩) (.inr rfl) _
                                              have A2 : Hid (Ad (wr.setCell ⟨gM, x, none⟩ (.bool true)) gA y y R adj) := HA1.out.keep1 tM ((rowTy HA1.out.row).ne (rowTy HM1.out) (by decide)) HMR.out
                                              have I2 : Hid ((wr.setCell ⟨gM, x, none⟩ (.bool true)).rowIs gI 3 y (fun t => .int .i64 (if t < 0 ∧ adj x t = true then ind t - 1 else ind t))) := (tM.row HI1.out (fun e => (rowTy HI1.out).ne (rowTy HM1.out) (by decide) e)).congr (fun t _ => by rw [if_neg (fun h => absurd h.1 (by omega))])
                                              have T2 : Hid (Turn (fun _ => False) w (wr.setCell ⟨gM, x, none⟩ (.bool true))) := HT1.out.setCell (p := ⟨gM, x, none⟩) (.inl HgM.out) _
                                              clear tM
                                              go_upto_region 88 with fail
                                              generalize wr.setCell ⟨gM, x, none⟩ (.bool true) = w13 at M2 A2 I2 T2 ⊢
                                              clear HM1 HI1 HA1 HT1 HN ym yi fM
                                              go_wp2_with fail
                                              go_loopg [38] y (fun gk i wq => ∃ z : Nat, z ≤ y ∧ gk = y - z ∧ i = .int .i64 z ∧ Hid (Turn (fun _ => False) w wq) ∧ Hid (Ad wq gA y y R adj) ∧ Hid (wq.rowIs gI 3 y (fun t => .int .i64 (if t < z ∧ adj x t = true then ind t - 1 else ind t))) ∧ Hid (wq.rowIs gM 4 y (fun t => .bool (upd rm x true t))))
                                              case atStart => exact ⟨0, Nat.zero_le _, rfl, rfl, T2, A2, I2, M2⟩
                                              case round =>
                                                clear T2 A2 I2 M2
                                                obtain ⟨z, hz, hgz, rfl, HT1, HA1, HI1, HM1⟩ := hrel
                                                by_cases hlt3 : z < y
                                                · have hd3 : decide ((z : Int) < (y : Int)) = true := by simp; omega
                                                  have z0 : (0 : Int) ≤ (z : Int) := by omega
                                                  have z1 : (z : Int) < (y : Int) := by omega
                                                  have ya := HA1.out.at_ (v := x) hlt2
                                                  have yb := HA1.out.cell (v := x) (x := z) hlt2 hlt3
                                                  have yi : wr.cell? ⟨gI, z, none⟩ = some (.int .i64 (ind z)) := (HI1.out.cell hlt3).trans (by rw [if_neg (fun h => absurd h.1 (by omega))])
                                                  have fI : wr.frozen? ⟨gI, z, none⟩ = false := HI1.out.frozen z
                                                  obtain ⟨k0, k1⟩ := HKn.out z hlt3
                                                  cases hc2 : adj x z with
                                                  | true =>
                                                    as_aux_lemma =>
                                                    rw [hc2] at yb
                                                    have HI2 : Hid ((wr.setCell ⟨gI, z, none⟩ (.int .i64 (ind z - 1))).rowIs gI 3 y (fun t => .int .i64 (if t < z + 1 ∧ adj x t = true then ind t - 1 else ind t))) := row_put HI1.out z _ _ (fun t _ => by
                                                      by_cases e : t = z
                                                      · subst e
                                                        rw [if_pos rfl, if_pos ⟨by omega, hc2⟩]
                                                      · rw [if_neg e]
                                                        by_cases h : t < z ∧ adj x t = true
                                                        · rw [if_pos h, if_pos ⟨by omega, h.2⟩]
                                                        · rw [if_neg h, if_neg (fun h' => h ⟨by omega, h'.2⟩)])
                                                    have tI : Turn (fun c => c = gI) wr (wr.setCell ⟨gI, z, none⟩ (.int .i64 (ind z - 1))) := (Turn.refl (fun c => c = gI) _).setCell (p := ⟨gI, z, none⟩) (.inr rfl) _
                                                    have HA2 : Hid (Ad (wr.setCell ⟨gI, z, none⟩ (.int .i64 (ind z - 1))) gA y y R adj) := HA1.out.keep tI (fun c hc' => by
                                                      have hc3 : c = gI := hc'
                                                      subst hc3
                                                      exact .inl (rowTy HI1.out))
                                                    have HM2 : Hid ((wr.setCell ⟨gI, z, none⟩ (.int .i64 (ind z - 1))).rowIs gM 4 y (fun t => .bool (upd rm x true t))) := tI.row HM1.out (fun e => (rowTy HM1.out).ne (rowTy HI1.out) (by decide) e)
                                                    have HT2 : Hid (Turn (fun _ => False) w (wr.setCell ⟨gI, z, none⟩ (.int .i64 (ind z - 1)))) := HT1.out.setCell (p := ⟨gI, z, none⟩) (.inl HgI.out) _
                                                    clear tI hc2 HI1 HA1 HM1 HT1
                                                    go_wp2_with fail
                                                    go_roundg (y - (z + 1))
                                                    case measure => omega
                                                    case rel => exact ⟨z + 1, by omega, rfl, val_int (by omega), HT2, HA2, HI2, HM2⟩
                                                  | false =>
                                                    as_aux_lemma =>
                                                    rw [hc2] at yb
                                                    have HI2 : Hid (wr.rowIs gI 3 y (fun t => .int .i64 (if t < z + 1 ∧ adj x t = true then ind t - 1 else ind t))) := HI1.out.congr (fun t _ => by
                                                      by_cases e : t = z
                                                      · subst e
                                                        rw [if_neg (fun h => absurd h.1 (by omega)), if_neg (fun h => by rw [hc2] at h; cases h.2)]
                                                      · by_cases h : t < z ∧ adj x t = true
                                                        · rw [if_pos h, if_pos ⟨by omega, h.2⟩]
                                                        · rw [if_neg h, if_neg (fun h' => h ⟨by omega, h'.2⟩)])
                                                    clear hc2 HI1
                                                    go_wp2_with fail
                                                    go_roundg (y - (z + 1))
                                                    case measure => omega
                                                    case rel => exact ⟨z + 1, by omega, rfl, val_int (by omega), HT1, HA1, HI2, HM1⟩
                                                · as_aux_lemma =>
                                                  have hd3 : decide ((z : Int) < (y : Int)) = false := by simp; omega
                                                  obtain rfl : z = y := by omega
                                                  have HK2 : Hid (KI z adj (upd rm x true) (fun t => if adj x t then ind t - 1 else ind t) (c + 1) (upd rk x c)) := HKI.out.take hlt2 HR0.out.1 HR0.out.2 (Hself.out x) _ (fun _ _ => rfl)
                                                  have HI2 : Hid (wr.rowIs gI 3 z (fun t => .int .i64 (if adj x t then ind t - 1 else ind t))) := HI1.out.congr (fun t ht => by
                                                    by_cases h : adj x t = true
                                                    · rw [if_pos ⟨ht, h⟩, if_pos h]
                                                    · rw [if_neg (fun h' => h h'.2), if_neg h])
                                                  go_wp2_with fail
                                                  go_roundg (z - (c + 1))
                                                  case measure => omega
                                                  case rel => exact ⟨c + 1, upd rm x true, _, upd rk x c, by omega, rfl, val_int (by omega), val_int (by omega), HK2, HT1, HA1, HI2, HM1⟩
                                            · as_aux_lemma =>
                                              have hq : (ind x == 0) = false := by simp [hz]
                                              have hq' : decide (ind x = 0) = false := by simp [hz]
                                              have HN2 : Hid (∀ z, z < x + 1 → rm z = false → ind z ≠ 0) := fun z hz' h1 => by
                                                by_cases e : z = x
                                                · rw [e]; exact hz
                                                · exact HN.out z (by omega) h1
                                              clear hr hz
                                              go_wp2_with fail
                                              go_roundg (y - (x + 1))
                                              case measure => omega
                                              case rel => exact ⟨x + 1, by omega, rfl, rfl, val_int (by omega), HN2, rfl⟩
                                        · as_aux_lemma =>
                                          have hd2 : decide ((x : Int) < (y : Int)) = false := by simp; omega
                                          obtain rfl : x = y := by omega
                                          have hst : ¬ ∃ r, Rk x adj r := HKI.out.stuck hlt HN.out
                                          have hfl : fl = false := by
                                            cases hf : fl with
                                            | false => rfl
                                            | true => exact absurd (HF.out.1 hf) hst
                                          have hce : ((c : Int) == (x : Int)) = false := by simp; omega
                                          subst hfl
                                          clear hst
                                          go_wp2_with fail
                                          go_ret
                                          exact ⟨rfl, HT1.out.below (Nat.le_refl _) (fun k h => h.elim)⟩
                                    · as_aux_lemma =>
                                      have hd : decide ((c : Int) < (y : Int)) = false := by simp; omega
                                      obtain rfl : c = y := by omega
                                      have hfl : fl = true := HF.out.2 HKI.out.full
                                      have hce : ((c : Int) == (c : Int)) = true := by simp
                                      subst hfl
                                      go_wp2_with fail
                                      go_ret
                                      exact ⟨rfl, HT1.out.below (Nat.le_refl _) (fun k h => h.elim)⟩
end Go.Proofs.Ybulkegnm
