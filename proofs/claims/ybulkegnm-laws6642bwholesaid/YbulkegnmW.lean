import Derived.Test.YbulkegnmE
namespace Go.Proofs.Ybulkegnm
open Go Go.RowKit

set_option maxRecDepth 100000 in
theorem mark_any (B : Nat) (x u : Value) (w : World) (hB : w.cell? ⟨B, 0, none⟩ = some u) (hf : w.frozen? ⟨B, 0, none⟩ = false) :
    Calls Yba.prog 7 #[x, .pointer (some ⟨B, 0, none⟩)] w fun e w' => e = .returned (.tuple #[]) ∧ w' = w.setCell ⟨B, 0, none⟩ (.bool false) := by
  go_enter Yba.func7, Yba.ntmps7
  go_wp2
  go_end0
  exact ⟨rfl, rfl⟩
set_option maxRecDepth 100000 in
theorem fn_any (B V : Nat) (a : Option Addr) (l c : Nat) (u : Value) (w : World) (hB : w.cell? ⟨B, 0, none⟩ = some u) (hf : w.frozen? ⟨B, 0, none⟩ = false) (hV : w.cell? ⟨V, 0, none⟩ = some (.func (.func 7) #[] #[.pointer (some ⟨B, 0, none⟩)])) :
    Calls Yba.prog 10 #[.slice a l c, .pointer (some ⟨V, 0, none⟩)] w fun e w' => e = .returned (.tuple #[]) ∧ w' = if 1 < l then w.setCell ⟨B, 0, none⟩ (.bool false) else w := by
  have hm := fun x => mark_any B x u w hB hf
  by_cases h1 : 1 < l
  · have hd : decide ((1 : Int) < (l : Int)) = true := by simp; omega
    rw [if_pos h1]
    go_enter Yba.func10, Yba.ntmps10
    go_wp2_with (go_at_call 7; refine (hm _).mono ?_; rintro e w' ⟨rfl, rfl⟩)
    go_end0
    exact ⟨rfl, rfl⟩
  · have hd : decide ((1 : Int) < (l : Int)) = false := by simp; omega
    rw [if_neg h1]
    go_enter Yba.func10, Yba.ntmps10
    go_wp2
    go_end0
    exact ⟨rfl, rfl⟩

/-- What a slice of nodes reads as. -/
def Reads (w : World) (a : Option Addr) (l : Nat) (z : Nat → Nat) : Prop := 0 < l → ∃ b o, a = some ⟨b, o, none⟩ ∧ ∀ j, j < l → w.cell? ⟨b, o + j, none⟩ = some (.int .i64 (z j : Nat))
/-- The graph succ, in memory that is not in M. -/
structure Gr (w : World) (M : Nat → Prop) (gS N : Nat) (sa : Nat → Option Addr) (deg sc : Nat → Nat) (arc : Nat → Nat → Nat) : Prop where
  at_ : ∀ v, v < N → w.cell? ⟨gS, v, none⟩ = some (.slice (sa v) (deg v) (sc v))
  rd : ∀ v, v < N → Reads w (sa v) (deg v) (arc v)
  nS : ¬ M gS
  nA : ∀ v, v < N → ∀ b o, 0 < deg v → sa v = some ⟨b, o, none⟩ → ¬ M b
theorem Gr.turn {w w' : World} {M : Nat → Prop} {gS N : Nat} {sa : Nat → Option Addr} {deg sc : Nat → Nat} {arc : Nat → Nat → Nat} (h : Gr w M gS N sa deg sc arc) (t : Turn M w w') : Gr w' M gS N sa deg sc arc :=
  ⟨fun v hv => t.cell (h.at_ v hv) h.nS, fun v hv hd => by
    obtain ⟨b, o, e, hc⟩ := h.rd v hv hd
    exact ⟨b, o, e, fun j hj => t.cell (hc j hj) (h.nA v hv b o hd e)⟩, h.nS, h.nA⟩
theorem len_up {f : Nat → Nat} {K : Nat} : ∀ (L : List Nat) (m : Nat), m ≤ K + 1 → L.Pairwise (fun a b => f a < f b) → (∀ x ∈ L, m ≤ f x ∧ f x ≤ K) → L.length + m ≤ K + 1
  | [], m, hm, _, _ => by simpa using hm
  | a :: L, m, _, hp, h => by
    have h1 := h a (by simp)
    have h2 := len_up (f := f) (K := K) L (m + 1) (by omega) (List.pairwise_cons.1 hp).2 (fun x hx => by
      have h3 := (List.pairwise_cons.1 hp).1 x hx
      have h4 := h x (by simp [hx])
      omega)
    simp only [List.length_cons]
    omega
theorem Base.stkN {N : Nat} {deg : Nat → Nat} {s : TS} (h : Base N deg s) : s.stk.length ≤ N := by
  have h1 := len_up s.stk 1 (by omega) h.mono (fun x hx => ⟨by have := h.sv x hx; omega, h.vle x⟩)
  have := h.cntN
  omega
theorem lowP_self {N : Nat} {deg : Nat → Nat} {s : TS} (h : Base N deg s) {cs : List (Nat × Nat)} {v nx : Nat} (hc : s.calls = cs ++ [(v, nx)]) : s.lowP cs v v = s.low v := by
  rcases List.eq_nil_or_concat cs with e | ⟨cs', c, e⟩
  · subst e; rfl
  · rw [List.concat_eq_append] at e
    subst e
    obtain ⟨p, pn⟩ := c
    rw [lowP_snoc]
    have hn : (s.calls.map (·.1)).Nodup := h.sub.nodup h.nodup
    rw [hc, List.map_append, List.nodup_append] at hn
    have : v ≠ p := fun e => hn.2.2 p (by simp) v (by simp) e.symm
    rw [upd_other _ _ this]
theorem min_nat (a b : Nat) : (if (b : Int) < (a : Int) then (b : Int) else (a : Int)) = ((min a b : Nat) : Int) := by split <;> omega

set_option maxHeartbeats 8000000 in
set_option maxRecDepth 100000 in
theorem walk_any (M : Nat → Prop) (T gV gL gO B V N : Nat) (aS : Option Addr) (cS : Nat) (aC : Option Addr) (cC : Nat) (s0 : TS) (gS cg : Nat) (sa : Nat → Option Addr) (deg sc : Nat → Nat) (arc : Nat → Nat → Nat) (root : Nat) (w : World)
    (h : Tw w M T gV gL gO B N aS cS aC cC s0) (up : ∀ c, w.heap.size ≤ c → M c) (hG : Gr w M gS N sa deg sc arc) (hg : ∀ v j, v < N → j < deg v → arc v j < N ∧ arc v j ≠ v) (hV : w.cell? ⟨V, 0, none⟩ = some (.func (.func 7) #[] #[.pointer (some ⟨B, 0, none⟩)])) (nV : ¬ M V)
    (hI : Inv N deg arc s0) (hst : s0.stk = []) (hc : s0.calls = []) (hr : root < N) (h0 : s0.vis root = 0) (hN : N ≤ 1000) (hdeg : ∀ v, v < N → deg v ≤ 1000000) :
    Calls Yba.prog 11 #[.pointer (some ⟨T, 0, none⟩), .slice (some ⟨gS, 0, none⟩) N cg, .int .i64 (root : Int), .func (.func 10) #[] #[.pointer (some ⟨V, 0, none⟩)]] w fun e w' => ∃ aS' cS' aC' cC' s, e = .returned (.tuple #[]) ∧ Turn M w w' ∧ Tw w' M T gV gL gO B N aS' cS' aC' cC' s ∧ Inv N deg arc s ∧ s.calls = [] ∧ s.stk = [] ∧ (∀ v, s0.vis v ≠ 0 → s.vis v ≠ 0) ∧ s.vis root ≠ 0 := by
  have HU : Hid (∀ c, w.heap.size ≤ c → M c) := up
  have HG : Hid (Gr w M gS N sa deg sc arc) := hG
  have Hg : Hid (∀ v j, v < N → j < deg v → arc v j < N ∧ arc v j ≠ v) := hg
  have HV : Hid (w.cell? ⟨V, 0, none⟩ = some (.func (.func 7) #[] #[.pointer (some ⟨B, 0, none⟩)])) := hV
  have HD : Hid (∀ v, v < N → deg v ≤ 1000000) := hdeg
  have hen := enter_any M T gV gL gO B N aS cS aC cC s0 root w h up hr (by have := hI.b.cntN; omega) (by rw [hst]; simp) (by rw [hc]; simp)
  have I1 : Hid (Inv N deg arc (s0.enter root)) := hI.enter0 hst hc hr h0
  clear h up hG hg hV hdeg hI hst hc
  go_enter Yba.func11, Yba.ntmps11
  go_upto_block 0 with (go_at_call 12; refine hen.mono ?_; rintro e w1 ⟨aS1, cS1, aC1, cC1, rfl, t1, h1⟩)
  have T1 : Hid (Turn M w w1) := t1
  have H1 : Hid (Tw w1 M T gV gL gO B N aS1 cS1 aC1 cC1 (s0.enter root)) := h1
  clear hen t1 h1
  go_wp2_with fail
  go_loopg [9] (meas N deg (s0.enter root)) (fun gk _ wr => ∃ s aS cS aC cC, gk = meas N deg s ∧ Hid (Inv N deg arc s) ∧ Hid (Tw wr M T gV gL gO B N aS cS aC cC s) ∧ Hid (Turn M w wr) ∧ Hid ((∀ v, s0.vis v ≠ 0 → s.vis v ≠ 0) ∧ s.vis root ≠ 0))
  case atStart =>
    refine ⟨s0.enter root, aS1, cS1, aC1, cC1, rfl, I1, H1, T1, fun v hv => ?_, by simp [TS.enter]⟩
    show upd s0.vis root (s0.cnt + 1) v ≠ 0
    by_cases e : v = root
    · rw [e, upd_same]; omega
    · rw [upd_other _ _ e]; exact hv
  case round =>
    obtain ⟨s, aS, cS, aC, cC, hgk, HI, HT, HTu, HM⟩ := hrel
    have HGr : Hid (Gr wr M gS N sa deg sc arc) := HG.out.turn HTu.out
    have hVr := HTu.out.cell HV.out nV
    have hup : Hid (∀ c, wr.heap.size ≤ c → M c) := fun c hc => HU.out c (Nat.le_trans HTu.out.size hc)
    have y4 : wr.cell? ⟨T, 4, none⟩ = some (.slice aC s.calls.length cC) := HT.out.o.cell (by omega)
    rcases List.eq_nil_or_concat s.calls with hnil | ⟨cs, c, hcc⟩
    · have hl0 : s.calls.length = 0 := by rw [hnil]; rfl
      rw [hl0] at y4
      have HN0 : Hid (s.calls = []) := hnil
      clear hnil hl0
      go_wp2_with fail
      go_end0
      exact ⟨aS, cS, aC, cC, s, rfl, HTu.out, HT.out, HI.out, HN0.out, HI.out.b.hd HN0.out, HM.out.1, HM.out.2⟩
    · rw [List.concat_eq_append] at hcc
      obtain ⟨v, nx⟩ := c
      have hlen : s.calls.length = cs.length + 1 := by rw [hcc]; simp
      have hvs : v ∈ s.stk := HI.out.b.mem (c := (v, nx)) (by rw [hcc]; simp)
      have hvN := HI.out.b.stN v hvs
      obtain ⟨gC, haC, _, _⟩ := HT.out.ca.cell (i := 0) (by rw [hlen]; omega)
      subst haC
      have hcell : ∀ i, i < (cs.length + 1) * 2 → wr.cell? ⟨gC, i, none⟩ = some (frs s.calls i) ∧ wr.frozen? ⟨gC, i, none⟩ = false := by
        intro i hi
        obtain ⟨g, e, h1, h2⟩ := HT.out.ca.cell (i := i) (by rw [hlen]; exact hi)
        cases e
        exact ⟨h1, h2⟩
      have z0 : wr.cell? ⟨gC, cs.length * 2, none⟩ = some (.int .i64 (v : Int)) := by
        rw [(hcell _ (by omega)).1, hcc, frs, if_pos (by omega), show cs.length * 2 / 2 = cs.length by omega]; simp
      have z1 : wr.cell? ⟨gC, cs.length * 2 + 1, none⟩ = some (.int .i64 (nx : Int)) := by
        rw [(hcell _ (by omega)).1, hcc, frs, if_neg (by omega), show (cs.length * 2 + 1) / 2 = cs.length by omega]; simp
      have zf := (hcell (cs.length * 2 + 1) (by omega)).2
      have hcl : cs.length ≤ 1000 := by
        have h1 := HI.out.b.sub.length_le
        have h2 := HI.out.b.stkN
        rw [List.length_map, hlen] at h1
        omega
      rw [hlen] at y4
      have HCC : Hid (s.calls = cs ++ [(v, nx)]) := hcc
      have ys : wr.cell? ⟨gS, v, none⟩ = some (.slice (sa v) (deg v) (sc v)) := HGr.out.at_ v hvN
      have hdv := HD.out v hvN
      have hnx : nx ≤ deg v := HI.out.b.nx (v, nx) (by rw [hcc]; simp)
      obtain ⟨k, hk⟩ : ∃ k, k = cs.length := ⟨_, rfl⟩
      rw [← hk] at y4 z0 z1 zf hcl
      have HK : Hid (k = cs.length) := hk
      have i0 : (0 : Int) ≤ (v : Int) := by omega
      have i1 : (v : Int) < (N : Int) := by omega
      have k0 : (0 : Int) ≤ (k : Int) := by omega
      have k1 : (k : Int) < ((k + 1 : Nat) : Int) := by omega
      have ksub : ((k + 1 : Nat) : Int) - 1 = (k : Int) := by omega
      clear hcell hlen hcc hk
      go_upto_region 2 with fail
      go_quiet (fail)
      go_upto_region 4 with fail
      go_quiet (fail)
      by_cases hlt : nx < deg v
      · as_aux_lemma =>
        have hd1 : decide ((nx : Int) < (deg v : Int)) = true := by simp; omega
        obtain ⟨bA, oA, haA, hcA⟩ := HGr.out.rd v hvN (by omega)
        have yA : wr.cell? ⟨bA, oA + nx, none⟩ = some (.int .i64 (arc v nx : Nat)) := hcA nx hlt
        rw [haA] at ys
        have hgv := Hg.out v nx hvN hlt
        obtain ⟨x, hx⟩ : ∃ x, x = arc v nx := ⟨_, rfl⟩
        rw [← hx] at yA hgv
        have HX : Hid (x = arc v nx) := hx
        have n0 : (0 : Int) ≤ (nx : Int) := by omega
        have n1 : (nx : Int) < (deg v : Int) := by omega
        have hxN : x < N := hgv.1
        clear hcA haA hx hgv hnx
        go_upto_region 5 with fail
        go_quiet (fail)
        go_upto_region 7 with fail
        have hdw : ∀ q, Hid (Tw ((wr.drewN q).setCell ⟨gC, k * 2 + 1, none⟩ (.int .i64 ((nx + 1 : Nat) : Int))) M T gV gL gO B N aS cS (some ⟨gC, 0, none⟩) cC (s.next cs v nx)) ∧ Hid (Turn M w ((wr.drewN q).setCell ⟨gC, k * 2 + 1, none⟩ (.int .i64 ((nx + 1 : Nat) : Int)))) := by
          intro q
          have h1 := (HT.out.turn ((Turn.refl (fun _ => False) wr).drewN q)).bump HCC.out (nx + 1)
          rw [← HK.out] at h1
          exact ⟨h1, (HTu.out.drewN q).setCell (p := ⟨gC, k * 2 + 1, none⟩) (.inr (HT.out.mC gC rfl)) _⟩
        have en : (nx : Int) + 1 = ((nx + 1 : Nat) : Int) := by omega
        rw [en]
        generalize hwq : (wr.drewN _).setCell ⟨gC, k * 2 + 1, none⟩ (.int .i64 ((nx + 1 : Nat) : Int)) = w2
        obtain ⟨H2, T2⟩ : Hid (Tw w2 M T gV gL gO B N aS cS (some ⟨gC, 0, none⟩) cC (s.next cs v nx)) ∧ Hid (Turn M w w2) := by rw [← hwq]; exact hdw _
        have hwr : wr.heap.size ≤ w2.heap.size := by rw [← hwq]; exact Nat.le_of_eq (by simp [World.setCell, World.drewN])
        have y0 : w2.cell? ⟨T, 0, none⟩ = some (.slice (some ⟨gV, 0, none⟩) N N) := H2.out.o.cell (by omega)
        have yv : w2.cell? ⟨gV, x, none⟩ = some (.int .i64 (s.vis x : Nat)) := H2.out.v.cell hxN
        have p0 : (0 : Int) ≤ (x : Int) := by omega
        have p1 : (x : Int) < (N : Int) := by omega
        have up2 : Hid (∀ c, w2.heap.size ≤ c → M c) := fun c hc => hup.out c (Nat.le_trans hwr hc)
        have hvb := HI.out.b.vle x
        have hcb := HI.out.b.cntN
        have hms := meas_next (N := N) (s := s) (deg := deg) HCC.out hlt
        have HMs : Hid (meas N deg (s.next cs v nx) < meas N deg s) := hms
        clear hwq hdw z0 z1 zf y4 ys yA hVr en hwr hms
        by_cases h0 : s.vis x = 0
        · rw [h0] at yv
          have hen := enter_any M T gV gL gO B N aS cS (some ⟨gC, 0, none⟩) cC (s.next cs v nx) x w2 H2.out up2.out hxN (by show s.cnt ≤ 1000; omega) (by show s.stk.length ≤ 1000; have := HI.out.b.stkN; omega) (by
            show (cs ++ [((v, nx + 1) : Nat × Nat)]).length ≤ 1000
            have h1 := HI.out.b.sub.length_le
            rw [List.length_map, HCC.out] at h1
            have := HI.out.b.stkN
            simp at h1 ⊢
            omega)
          have HI2 : Hid (Inv N deg arc ((s.next cs v nx).enter x)) := by
            have := HI.out.stepEnter Hg.out HCC.out hlt (by rw [← HX.out]; exact h0)
            rw [← HX.out] at this
            exact this
          have HM2 : Hid (meas N deg ((s.next cs v nx).enter x) < meas N deg s) := Nat.lt_trans (meas_enter (s := s.next cs v nx) hxN h0) HMs.out
          have HV2 : Hid ((∀ u, s0.vis u ≠ 0 → ((s.next cs v nx).enter x).vis u ≠ 0) ∧ ((s.next cs v nx).enter x).vis root ≠ 0) := by
            have key : ∀ u, s.vis u ≠ 0 → ((s.next cs v nx).enter x).vis u ≠ 0 := by
              intro u hu
              show upd s.vis x (s.cnt + 1) u ≠ 0
              by_cases e : u = x
              · rw [e, upd_same]; omega
              · rw [upd_other _ _ e]; exact hu
            exact ⟨fun u hu => key u (HM.out.1 u hu), key root HM.out.2⟩
          clear h0 HI HM HT HTu HGr
          go_wp2_with (go_at_call 12; refine hen.mono ?_; rintro e w3 ⟨aS3, cS3, aC3, cC3, rfl, t3, h3⟩)
          go_roundg (meas N deg ((s.next cs v nx).enter x))
          case measure => have := HM2.out; omega
          case rel => exact ⟨_, aS3, cS3, aC3, cC3, rfl, HI2, h3, T2.out.trans t3 (fun _ _ y => y), HV2⟩
        · have hv0 : ((s.vis x : Int) == 0) = false := by simp; omega
          have hv0' : decide ((s.vis x : Int) = 0) = false := by simp; omega
          have y2 : w2.cell? ⟨T, 2, none⟩ = some (.slice (some ⟨gO, 0, none⟩) N N) := H2.out.o.cell (by omega)
          have yo : w2.cell? ⟨gO, x, none⟩ = some (.bool (s.onS x)) := H2.out.on.cell hxN
          have H0 : Hid (s.vis x ≠ 0) := h0
          cases hon : s.onS x with
          | true =>
            as_aux_lemma =>
            rw [hon] at yo
            have y1 : w2.cell? ⟨T, 1, none⟩ = some (.slice (some ⟨gL, 0, none⟩) N N) := H2.out.o.cell (by omega)
            have yl : w2.cell? ⟨gL, v, none⟩ = some (.int .i64 (s.low v : Nat)) := H2.out.l.cell hvN
            have fl : w2.frozen? ⟨gL, v, none⟩ = false := H2.out.l.frozen v
            have HI2 : Hid (Inv N deg arc ((s.next cs v nx).lower v (s.vis x))) := by
              have := HI.out.stepLow Hg.out HCC.out hlt (by rw [← HX.out]; exact hon)
              rw [← HX.out] at this
              exact this
            have hVis := HM.out
            clear h0 hon HI HM HT HTu HGr
            go_upto_region 10 with fail
            by_cases hmn : s.vis x < s.low v
            · have hmi : (s.vis x : Int) < (s.low v : Int) := by omega
              have HE : Hid (min (s.low v) (s.vis x) = s.vis x) := Nat.min_eq_right (by omega)
              clear hmn
              go_region
              all_goals
                go_wp2_with fail
                go_roundg (meas N deg ((s.next cs v nx).lower v (s.vis x)))
                case measure => rw [meas_lower]; have := HMs.out; omega
                case rel =>
                  refine ⟨_, aS, cS, some ⟨gC, 0, none⟩, cC, rfl, HI2, ?_, (T2.out.setCell (p := ⟨gL, v, none⟩) (.inr H2.out.mL) _).drew, hVis⟩
                  have h9 := (H2.out.setLow v (s.vis x)).turn (Turn.refl _ _).drew
                  have e9 : (s.next cs v nx).lower v (s.vis x) = { s.next cs v nx with low := upd (s.next cs v nx).low v (s.vis x) } := by
                    show { s.next cs v nx with low := upd s.low v (min (s.low v) (s.vis x)) } = _
                    rw [HE.out]; rfl
                  rw [e9]
                  exact h9
            · have hmi : ¬ ((s.vis x : Int) < (s.low v : Int)) := by omega
              have hmi2 : (s.low v : Int) ≤ (s.vis x : Int) := by omega
              have HE : Hid (min (s.low v) (s.vis x) = s.low v) := Nat.min_eq_left (by omega)
              clear hmn
              go_region
              all_goals
                go_wp2_with fail
                go_roundg (meas N deg ((s.next cs v nx).lower v (s.vis x)))
                case measure => rw [meas_lower]; have := HMs.out; omega
                case rel =>
                  refine ⟨_, aS, cS, some ⟨gC, 0, none⟩, cC, rfl, HI2, ?_, (T2.out.setCell (p := ⟨gL, v, none⟩) (.inr H2.out.mL) _).drew, hVis⟩
                  have h9 := (H2.out.setLow v (s.low v)).turn (Turn.refl _ _).drew
                  have e9 : (s.next cs v nx).lower v (s.vis x) = { s.next cs v nx with low := upd (s.next cs v nx).low v (s.low v) } := by
                    show { s.next cs v nx with low := upd s.low v (min (s.low v) (s.vis x)) } = _
                    rw [HE.out]; rfl
                  rw [e9]
                  exact h9
          | false =>
            rw [hon] at yo
            have HI2 : Hid (Inv N deg arc (s.next cs v nx)) := HI.out.stepSkip Hg.out HCC.out hlt (by rw [← HX.out]; exact h0) (by rw [← HX.out]; exact hon)
            have hVis := HM.out
            clear h0 hon HI HM HT HTu HGr
            go_wp2_with fail
            go_roundg (meas N deg (s.next cs v nx))
            case measure => have := HMs.out; omega
            case rel => exact ⟨_, aS, cS, _, cC, rfl, HI2, H2, T2, hVis⟩
      · as_aux_lemma =>
        have hd1 : decide ((nx : Int) < (deg v : Int)) = false := by simp; omega
        obtain rfl : nx = deg v := by omega
        have hcap := HT.out.ca.le
        have hlc : s.calls.length = k + 1 := by rw [HCC.out, HK.out]; simp
        rw [hlc] at hcap
        have q1 : (k : Int) ≤ (cC : Int) := by omega
        have e55 : Yba.prog.elem 55 = 63 := by kernel_rfl
        obtain ⟨f0, f1, f2, f3, f4⟩ := info_parts info63
        have hsl : ∀ W, (Instr.slice 55 (.slice (some ⟨gC, 0, none⟩) (k + 1) cC) none (some (.int .i64 (k : Int))) none).run Yba.prog W = .ok (.slice (some ⟨gC, 0, none⟩) k cC) W := by
          intro W
          rw [run_slice_h W 55 (some ⟨gC, 0, none⟩) (k + 1) cC Yba.underlying55 .i64 (k : Int) k0 q1]
          simp [sizeOf, typeInfo, e55, f1, f3, sliced, Addr.add]
        have hd1' : decide (deg v < deg v) = false := by simp
        clear hlc hcap e55 f0 f1 f2 f3 f4 ys
        go_upto_region 11 with fail
        generalize hwq : wr.drewN _ = w2
        have H2 : Hid (Tw w2 M T gV gL gO B N aS cS (some ⟨gC, 0, none⟩) cC s) := by rw [← hwq]; exact HT.out.turn ((Turn.refl _ _).drewN _)
        have T2 : Hid (Turn M w w2) := by rw [← hwq]; exact HTu.out.drewN _
        have y4 : w2.cell? ⟨T, 4, none⟩ = some (.slice (some ⟨gC, 0, none⟩) (k + 1) cC) := by rw [← hwq]; exact y4
        have fT : ∀ j, w2.frozen? ⟨T, j, none⟩ = false := fun j => H2.out.o.frozen j
        clear hwq z0 z1 zf
        have h9 : ∀ q, Tw ((w2.drewN q).setCell ⟨T, 4, none⟩ (.slice (some ⟨gC, 0, none⟩) k cC)) M T gV gL gO B N aS cS (some ⟨gC, 0, none⟩) cC { s with calls := cs } := by
          intro q
          have := (H2.out.turn ((Turn.refl (fun _ => False) w2).drewN q)).dropC HCC.out
          rw [← HK.out] at this
          exact this
        have H9 : Hid (∀ q, Tw ((w2.drewN q).setCell ⟨T, 4, none⟩ (.slice (some ⟨gC, 0, none⟩) k cC)) M T gV gL gO B N aS cS (some ⟨gC, 0, none⟩) cC { s with calls := cs }) := h9
        clear h9
        go_cut [] from 16 to 118 (fun wx => Hid (Turn M w wx) ∧ Hid (Tw wx M T gV gL gO B N aS cS (some ⟨gC, 0, none⟩) cC { s with calls := cs }))
        case first =>
          go_region
          all_goals
            go_wp2_with fail
            go_meet
            case rel => exact ⟨(T2.out.drewN _).setCell (p := ⟨T, 4, none⟩) (.inr H2.out.mT) _, H9.out _⟩
        case rest =>
          obtain ⟨T3, H3⟩ := hcut
          obtain ⟨w3, hw3⟩ : ∃ w3 : World, w3 = wc := ⟨_, rfl⟩
          rw [← hw3] at T3 H3 ⊢
          clear hw3 y4 fT H9 H2 T2 hsl
          have y4 : w3.cell? ⟨T, 4, none⟩ = some (.slice (some ⟨gC, 0, none⟩) cs.length cC) := H3.out.o.cell (by omega)
          rw [← HK.out] at y4
          go_upto_if 124 with fail
          go_cut [11] from 16 to 158 (fun _ wx => Hid (Turn M w wx) ∧ Hid (Tw wx M T gV gL gO B N aS cS (some ⟨gC, 0, none⟩) cC (s.ended cs v)))
          case first =>
            as_aux_lemma =>
            rcases List.eq_nil_or_concat cs with hnil | ⟨cs', c', hcc'⟩
            · subst hnil
              have hk0 : k = 0 := HK.out
              subst hk0
              go_wp2_with fail
              go_meet
              case rel => exact ⟨T3, H3⟩
            · rw [List.concat_eq_append] at hcc'
              subst hcc'
              obtain ⟨p, pn⟩ := c'
              obtain ⟨k', hk'⟩ : ∃ k', k' = cs'.length := ⟨_, rfl⟩
              have hkk : k = k' + 1 := by rw [HK.out, hk']; simp
              have hps : p ∈ s.stk := HI.out.b.mem (c := (p, pn)) (by rw [HCC.out]; simp)
              have hpN := HI.out.b.stN p hps
              have zp : w3.cell? ⟨gC, k' * 2, none⟩ = some (.int .i64 (p : Int)) := by
                obtain ⟨g, e, h1, _⟩ := H3.out.ca.cell (i := k' * 2) (by show k' * 2 < (cs' ++ [((p, pn) : Nat × Nat)]).length * 2; rw [hk']; simp)
                cases e
                rw [h1]
                show some (frs (cs' ++ [(p, pn)]) (k' * 2)) = _
                rw [frs, if_pos (by omega), show k' * 2 / 2 = cs'.length by omega]
                simp
              have y1 : w3.cell? ⟨T, 1, none⟩ = some (.slice (some ⟨gL, 0, none⟩) N N) := H3.out.o.cell (by omega)
              have ylp : w3.cell? ⟨gL, p, none⟩ = some (.int .i64 (s.low p : Nat)) := H3.out.l.cell hpN
              have ylv : w3.cell? ⟨gL, v, none⟩ = some (.int .i64 (s.low v : Nat)) := H3.out.l.cell hvN
              have fl : ∀ j, w3.frozen? ⟨gL, j, none⟩ = false := fun j => H3.out.l.frozen j
              have r0 : (0 : Int) ≤ (p : Int) := by omega
              have r1 : (p : Int) < (N : Int) := by omega
              have m0 : (0 : Int) ≤ (k' : Int) := by omega
              have m1 : (k' : Int) < (k : Int) := by omega
              have msub : (k : Int) - 1 = (k' : Int) := by omega
              have hkp : decide ((0 : Int) < (k : Int)) = true := by rw [decide_eq_true_eq]; omega
              have hkp2 : decide (0 < k) = true := by rw [decide_eq_true_eq]; omega
              have hkp3 : 0 < k := by omega
              clear hk' hkk
              go_upto_region 13 with fail
              go_quiet (fail)
              by_cases hmn : s.low v < s.low p
              · have hmi : (s.low v : Int) < (s.low p : Int) := by omega
                have HE : Hid (min (s.low p) (s.low v) = s.low v) := Nat.min_eq_right (by omega)
                clear hmn
                go_upto_region 14 with fail
                go_region
                all_goals
                  go_wp2_with fail
                  go_meet
                  case rel =>
                    have e9 : s.ended (cs' ++ [(p, pn)]) v = { s with calls := cs' ++ [(p, pn)], low := upd s.low p (s.low v) } := by
                      rw [TS.ended, lowP_snoc, HE.out]
                    rw [e9]
                    exact ⟨(T3.out.drewN _).setCell (p := ⟨gL, p, none⟩) (.inr H3.out.mL) _, (H3.out.turn ((Turn.refl _ _).drewN _)).setLow p (s.low v)⟩
              · have hmi : ¬ ((s.low v : Int) < (s.low p : Int)) := by omega
                have hmi2 : (s.low p : Int) ≤ (s.low v : Int) := by omega
                have HE : Hid (min (s.low p) (s.low v) = s.low p) := Nat.min_eq_left (by omega)
                clear hmn
                go_upto_region 14 with fail
                go_region
                all_goals
                  go_wp2_with fail
                  go_meet
                  case rel =>
                    have e9 : s.ended (cs' ++ [(p, pn)]) v = { s with calls := cs' ++ [(p, pn)], low := upd s.low p (s.low p) } := by
                      rw [TS.ended, lowP_snoc, HE.out]
                    rw [e9]
                    exact ⟨(T3.out.drewN _).setCell (p := ⟨gL, p, none⟩) (.inr H3.out.mL) _, (H3.out.turn ((Turn.refl _ _).drewN _)).setLow p (s.low p)⟩
          case rest =>
            as_aux_lemma =>
            obtain ⟨T4, H4⟩ := hcut
            obtain ⟨w4, hw4⟩ : ∃ w4 : World, w4 = wc := ⟨_, rfl⟩
            rw [← hw4] at T4 H4 ⊢
            clear hw4 y4 H3 T3
            have hlp : (s.ended cs v).low v = s.low v := lowP_self HI.out.b HCC.out
            have y0 : w4.cell? ⟨T, 0, none⟩ = some (.slice (some ⟨gV, 0, none⟩) N N) := H4.out.o.cell (by omega)
            have y1 : w4.cell? ⟨T, 1, none⟩ = some (.slice (some ⟨gL, 0, none⟩) N N) := H4.out.o.cell (by omega)
            have y3 : w4.cell? ⟨T, 3, none⟩ = some (.slice aS s.stk.length cS) := H4.out.o.cell (by omega)
            have yv : w4.cell? ⟨gV, v, none⟩ = some (.int .i64 (s.vis v : Nat)) := H4.out.v.cell hvN
            have yl : w4.cell? ⟨gL, v, none⟩ = some (.int .i64 ((s.ended cs v).low v : Nat)) := H4.out.l.cell hvN
            rw [hlp] at yl
            have hms := meas_ended (N := N) (s := s) (deg := deg) HCC.out
            have HMs : Hid (meas N deg (s.ended cs v) < meas N deg s) := hms
            clear hlp hms
            by_cases hlv : s.low v = s.vis v
            · have hd2 : ((s.low v : Int) != (s.vis v : Int)) = false := by simp; omega
              have hd2' : decide ((s.low v : Int) = (s.vis v : Int)) = true := by simp; omega
              obtain ⟨pre, post, hpp⟩ := List.append_of_mem hvs
              have HPP : Hid (s.stk = pre ++ v :: post) := hpp
              have hL : s.stk.length = pre.length + (post.length + 1) := by rw [hpp]; simp
              obtain ⟨L, hLL⟩ : ∃ L, L = s.stk.length := ⟨_, rfl⟩
              have HL : Hid (L = s.stk.length ∧ L = pre.length + (post.length + 1)) := ⟨hLL, by rw [hLL, hL]⟩
              rw [← hLL] at y3
              obtain ⟨gSt, haS, _, _⟩ := H4.out.st.cell (i := 0) (by show 0 < s.stk.length * 1; omega)
              subst haS
              have hLb : L ≤ 1000 := by have := HI.out.b.stkN; omega
              have HI2 : Hid (Inv N deg arc ((s.ended cs v).pop pre v post)) := HI.out.stepPop Hg.out HCC.out hlv hpp
              have hVis := HM.out
              have hnd := HI.out.b.nodup
              have hstN := HI.out.b.stN
              have HND : Hid (s.stk.Nodup) := hnd
              have HSN : Hid (∀ x ∈ s.stk, x < N) := hstN
              have hVw : Hid (w4.cell? ⟨V, 0, none⟩ = some (.func (.func 7) #[] #[.pointer (some ⟨B, 0, none⟩)])) := T4.out.cell HV.out nV
              clear hlv hpp hL hLL hnd hstN HI HM HT HTu HGr hVr
              go_upto_region 15 with fail
              go_quiet (fail)
              go_upto_block 3 with fail
              generalize hwq : w4.drewN _ = w5
              have H5 : Hid (Tw w5 M T gV gL gO B N (some ⟨gSt, 0, none⟩) cS (some ⟨gC, 0, none⟩) cC (s.ended cs v)) := by rw [← hwq]; exact H4.out.turn ((Turn.refl _ _).drewN _)
              have T5 : Hid (Turn M w w5) := by rw [← hwq]; exact T4.out.drewN _
              have HV5 : Hid (w5.cell? ⟨V, 0, none⟩ = some (.func (.func 7) #[] #[.pointer (some ⟨B, 0, none⟩)])) := by rw [← hwq]; exact hVw.out
              clear hwq H4 T4 hVw y0 y1 y3 yv yl
              go_cut [12] from 16 to 201 (fun s12 wx => s12 = .int .i64 (pre.length : Nat) ∧ Hid (Turn M w wx) ∧ Hid (Tw wx M T gV gL gO B N (some ⟨gSt, 0, none⟩) cS (some ⟨gC, 0, none⟩) cC { s.ended cs v with onS := fun x => s.onS x && !((v :: post).contains x) }))
              case first =>
                as_aux_lemma =>
                go_wp2_with fail
                go_loopg [12] L (fun gk s12 wr => ∃ i : Nat, pre.length + 1 ≤ i ∧ i ≤ L ∧ gk = i ∧ s12 = .int .i64 i ∧ Hid (Turn M w wr) ∧ Hid (Tw wr M T gV gL gO B N (some ⟨gSt, 0, none⟩) cS (some ⟨gC, 0, none⟩) cC { s.ended cs v with onS := fun x => s.onS x && !((s.stk.drop i).contains x) }))
                case atStart =>
                  refine ⟨L, by have := HL.out.2; omega, Nat.le_refl _, rfl, rfl, T5, ?_⟩
                  have e0 : (fun x => s.onS x && !((s.stk.drop L).contains x)) = s.onS := by
                    funext x
                    rw [List.drop_eq_nil_of_le (by have := HL.out.1; omega)]
                    simp
                  rw [e0]
                  exact H5
                case round =>
                  obtain ⟨i, hi1, hi2, hgi, rfl, HTi, HWi⟩ := hrel
                  obtain ⟨i', rfl⟩ : ∃ i', i = i' + 1 := ⟨i - 1, by omega⟩
                  have hiL : i' < s.stk.length := by have := HL.out.1; omega
                  obtain ⟨e, he⟩ : ∃ e, e = s.stk[i']'hiL := ⟨_, rfl⟩
                  have hes : e ∈ s.stk := by rw [he]; exact List.getElem_mem hiL
                  have heN := HSN.out e hes
                  have y3 : wr.cell? ⟨T, 3, none⟩ = some (.slice (some ⟨gSt, 0, none⟩) s.stk.length cS) := HWi.out.o.cell (by omega)
                  rw [← HL.out.1] at y3
                  have yst : wr.cell? ⟨gSt, i', none⟩ = some (.int .i64 (e : Int)) := by
                    obtain ⟨g, e1, h1, _⟩ := HWi.out.st.cell (i := i') (by show i' < s.stk.length * 1; omega)
                    cases e1
                    rw [h1]
                    show some (Value.int .i64 ((s.stk.getD i' 0 : Nat) : Int)) = _
                    rw [List.getD_eq_getElem?_getD, List.getElem?_eq_getElem hiL, he]
                    rfl
                  have y2 : wr.cell? ⟨T, 2, none⟩ = some (.slice (some ⟨gO, 0, none⟩) N N) := HWi.out.o.cell (by omega)
                  have yo : wr.cell? ⟨gO, e, none⟩ = some (.bool (s.onS e && !((s.stk.drop (i' + 1)).contains e))) := HWi.out.on.cell heN
                  have fo : wr.frozen? ⟨gO, e, none⟩ = false := HWi.out.on.frozen e
                  have isub : ((i' + 1 : Nat) : Int) - 1 = (i' : Int) := by omega
                  have j0 : (0 : Int) ≤ (i' : Int) := by omega
                  have j1 : (i' : Int) < (L : Int) := by omega
                  have l0 : (0 : Int) ≤ (e : Int) := by omega
                  have l1 : (e : Int) < (N : Int) := by omega
                  have hfun : upd (fun x => s.onS x && !((s.stk.drop (i' + 1)).contains x)) e false = fun x => s.onS x && !((s.stk.drop i').contains x) := by
                    funext x
                    rw [List.drop_eq_getElem_cons hiL, ← he]
                    by_cases ex : x = e
                    · subst ex; rw [upd_same]; simp
                    · rw [upd_other _ _ ex]
                      simp only [List.contains_cons]
                      have : (x == e) = false := by simp [ex]
                      rw [this, Bool.false_or]
                  have HW2 : Hid (∀ q, Tw ((wr.setCell ⟨gO, e, none⟩ (.bool false)).drewN q) M T gV gL gO B N (some ⟨gSt, 0, none⟩) cS (some ⟨gC, 0, none⟩) cC { s.ended cs v with onS := fun x => s.onS x && !((s.stk.drop i').contains x) }) := by
                    intro q
                    have h9 := (HWi.out.setOn e false).turn ((Turn.refl (fun _ => False) _).drewN q)
                    have e9 : ({ s.ended cs v with onS := upd (fun x => s.onS x && !((s.stk.drop (i' + 1)).contains x)) e false } : TS) = { s.ended cs v with onS := fun x => s.onS x && !((s.stk.drop i').contains x) } := by rw [hfun]
                    rw [← e9]
                    exact h9
                  have HT2 : Hid (∀ q, Turn M w ((wr.setCell ⟨gO, e, none⟩ (.bool false)).drewN q)) := fun q => (HTi.out.setCell (p := ⟨gO, e, none⟩) (.inr HWi.out.mO) _).drewN q
                  have HE : Hid (e = s.stk[i']'hiL) := he
                  have hne : gSt ≠ gO := (HWi.out.st.ty gSt rfl).ne HWi.out.tO (by decide)
                  have hnT : T ≠ gO := HWi.out.tT.ne HWi.out.tO (by decide)
                  have y3b : (wr.setCell ⟨gO, e, none⟩ (.bool false)).cell? ⟨T, 3, none⟩ = some (.slice (some ⟨gSt, 0, none⟩) L cS) := (World.cell?_setCell_other _ _ _ _ (by intro h; cases h; exact hnT rfl)).trans y3
                  have ystb : (wr.setCell ⟨gO, e, none⟩ (.bool false)).cell? ⟨gSt, i', none⟩ = some (.int .i64 (e : Int)) := (World.cell?_setCell_other _ _ _ _ (by intro h; cases h; exact hne rfl)).trans yst
                  clear hfun he HWi HTi
                  by_cases hev : e = v
                  · have hde : ((e : Int) == (v : Int)) = true := by simp; omega
                    have HIP : Hid (i' = pre.length) := by
                      have h1 := HND.out.idxOf_getElem i' hiL
                      have h2 := HND.out.idxOf_getElem pre.length (by have := HL.out; omega)
                      have h3 : s.stk[pre.length]'(by have := HL.out; omega) = v := by simp [HPP.out]
                      rw [← HE.out, hev] at h1
                      rw [h3] at h2
                      exact h1.symm.trans h2
                    clear hev
                    go_upto_region 18 with fail
                    go_region
                    all_goals
                      go_wp2_with fail
                      go_meet
                      case rel =>
                        have e7 : s.stk.drop i' = v :: post := by rw [HIP.out, HPP.out]; simp
                        refine ⟨by rw [HIP.out], HT2.out 1, ?_⟩
                        have h9 := HW2.out 1
                        rw [e7] at h9
                        exact h9
                  · have hde : ((e : Int) == (v : Int)) = false := by simp; omega
                    have hip : pre.length + 1 ≤ i' := by
                      rcases Nat.lt_or_ge pre.length i' with h1 | h1
                      · exact h1
                      · exfalso
                        have h2 : i' = pre.length := by omega
                        apply hev
                        rw [HE.out]
                        subst h2
                        simp [HPP.out]
                    clear hev
                    go_upto_region 18 with fail
                    go_region
                    all_goals
                      go_wp2_with fail
                      go_roundg i'
                      case measure => omega
                      case rel => exact ⟨i', hip, by omega, rfl, rfl, HT2.out 1, HW2.out 1⟩
              case rest =>
                as_aux_lemma =>
                obtain ⟨rfl, T6, H6⟩ := hcut
                obtain ⟨w6, hw6⟩ : ∃ w6 : World, w6 = wc := ⟨_, rfl⟩
                rw [← hw6] at T6 H6 ⊢
                clear hw6
                obtain ⟨P, hP⟩ : ∃ P, P = pre.length := ⟨_, rfl⟩
                have hPL : P + (post.length + 1) = L := by have := HL.out.2; omega
                have hcapS : L ≤ cS := by
                  have h1 := H6.out.st.le.1
                  have h2 : s.stk.length ≤ cS := h1
                  have := HL.out.1
                  omega
                have y3 : w6.cell? ⟨T, 3, none⟩ = some (.slice (some ⟨gSt, 0, none⟩) s.stk.length cS) := H6.out.o.cell (by omega)
                rw [← HL.out.1] at y3
                rw [← hP]
                have P0 : (0 : Int) ≤ (P : Int) := by omega
                have P1 : (P : Int) ≤ (L : Int) := by omega
                have P2 : (P : Int) ≤ (cS : Int) := by omega
                have e36 : Yba.prog.elem 36 = 3 := by kernel_rfl
                obtain ⟨f0, f1, f2, f3, f4⟩ := info_parts info3
                obtain ⟨a', c', hsl2⟩ : ∃ a' c', ∀ W, (Instr.slice 36 (.slice (some ⟨gSt, 0, none⟩) L cS) (some (.int .i64 (P : Int))) none none).run Yba.prog W = .ok (.slice a' (post.length + 1) c') W := by
                  refine ⟨if cS = P then some ⟨gSt, 0, none⟩ else (some ⟨gSt, 0, none⟩ : Option Addr).map (·.add (P * 1)), cS - P, fun W => ?_⟩
                  rw [run_slice_l W 36 (some ⟨gSt, 0, none⟩) L cS Yba.underlying36 .i64 (P : Int) P0 P1]
                  simp [sizeOf, typeInfo, e36, f1, f3, sliced, show L - P = post.length + 1 by omega]
                have hsl3 : ∀ W, (Instr.slice 36 (.slice (some ⟨gSt, 0, none⟩) L cS) none (some (.int .i64 (P : Int))) none).run Yba.prog W = .ok (.slice (some ⟨gSt, 0, none⟩) P cS) W := by
                  intro W
                  rw [run_slice_h W 36 (some ⟨gSt, 0, none⟩) L cS Yba.underlying36 .i64 (P : Int) P0 P2]
                  simp [sizeOf, typeInfo, e36, f1, f3, sliced, Addr.add]
                have hfn := fn_any B V a' (post.length + 1) c' _ w6 (H6.out.b.cell (by omega)) (H6.out.b.frozen 0) (T6.out.cell HV.out nV)
                have HPp : Hid (P = pre.length) := hP
                clear e36 f0 f1 f2 f3 f4 hP
                go_upto_region 21 with (go_at_call 10; refine hfn.mono ?_; rintro e w7 ⟨rfl, hw7'⟩; have HW7 : Hid _ := hw7'; clear hw7')
                have hw7 := HW7.out
                have H7 : Hid (Tw w7 M T gV gL gO B N (some ⟨gSt, 0, none⟩) cS (some ⟨gC, 0, none⟩) cC { s.ended cs v with onS := fun x => s.onS x && !((v :: post).contains x), flag := s.flag && post.isEmpty }) := by
                  cases post with
                  | nil =>
                    rw [if_neg (by simp)] at hw7
                    rw [hw7]
                    have : (s.flag && ([] : List Nat).isEmpty) = s.flag := by simp
                    rw [this]
                    exact H6.out
                  | cons b post' =>
                    rw [if_pos (by simp)] at hw7
                    rw [hw7]
                    have : (s.flag && (b :: post').isEmpty) = false := by simp
                    rw [this]
                    exact H6.out.setFlag
                have T7 : Hid (Turn M w w7) := by
                  rw [hw7]
                  show Turn M w _
                  split
                  · exact T6.out.setCell (p := ⟨B, 0, none⟩) (.inr H6.out.mB) _
                  · exact T6.out
                have y3 : w7.cell? ⟨T, 3, none⟩ = some (.slice (some ⟨gSt, 0, none⟩) s.stk.length cS) := H7.out.o.cell (by omega)
                rw [← HL.out.1] at y3
                have fT : ∀ j, w7.frozen? ⟨T, j, none⟩ = false := fun j => H7.out.o.frozen j
                have H8 : Hid (Tw (w7.setCell ⟨T, 3, none⟩ (.slice (some ⟨gSt, 0, none⟩) P cS)) M T gV gL gO B N (some ⟨gSt, 0, none⟩) cS (some ⟨gC, 0, none⟩) cC ((s.ended cs v).pop pre v post)) := by
                  have h9 := H7.out.dropS (pre := pre) (post := v :: post) HPP.out
                  rw [← HPp.out] at h9
                  exact h9
                clear hw7 HW7 hsl2 hfn H6 T6
                go_wp2_with fail
                go_roundg (meas N deg ((s.ended cs v).pop pre v post))
                case measure => rw [meas_pop]; have := HMs.out; omega
                case rel => exact ⟨_, _, cS, _, cC, rfl, HI2, H8, T7.out.setCell (p := ⟨T, 3, none⟩) (.inr H7.out.mT) _, hVis⟩
            · have hd2 : ((s.low v : Int) != (s.vis v : Int)) = true := by simp; omega
              have hd2' : decide ((s.low v : Int) = (s.vis v : Int)) = false := by simp; omega
              have HI2 : Hid (Inv N deg arc (s.ended cs v)) := HI.out.stepDrop Hg.out HCC.out hlv
              have hVis := HM.out
              clear hlv HI HM HT HTu HGr
              go_upto_region 15 with fail
              go_quiet (fail)
              go_wp2_with fail
              go_roundg (meas N deg (s.ended cs v))
              case measure => have := HMs.out; omega
              case rel => exact ⟨_, aS, cS, some ⟨gC, 0, none⟩, cC, rfl, HI2, H4.out.turn ((Turn.refl _ _).drewN _), T4.out.drewN _, hVis⟩
end Go.Proofs.Ybulkegnm
