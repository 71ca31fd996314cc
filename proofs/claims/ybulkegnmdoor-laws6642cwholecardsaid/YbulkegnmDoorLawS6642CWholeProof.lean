import Derived.Test.YbulkegnmDoorCards
import Derived.Test.YbulkegnmDoorTie
import Derived.Test.YbulkegnmDoorL2
import Derived.Test.YbulkegnmDoorO
import Derived.ProofKit
import Derived.LaidMore
import Derived.OpenShut
import Derived.ShutString
import Derived.ChangeOld
import Derived.Stop.Joined
import Derived.Lib.LaidTab
import Derived.Lib.TrailingZeros
import Derived.SevenTiedAt
namespace Go.Proofs.YbulkegnmDoor.lawS6642CWhole
open Go.ChangeShapes Go.WideShapes Go.ChangeAt Go.RowKit
set_option linter.unusedVariables false
theorem own : ownKnob Ybad.prog.godebug = none := by kernel_rfl
theorem laidOut : laidOutB Ybad.prog = true := by kernel_rfl
theorem gT : Ybad.prog.globalNamed "math/bits.deBruijn64tab" = some 8 := by kernel_rfl
theorem tT : (Ybad.prog.globals[8]?).map (·.type) = some 78 := by kernel_rfl
def dbTab : List Int := Lib.deBruijn64tab.map Int.ofNat
theorem tab_eq {H : Type} : (Rows.laid_math_bits_deBruijn64tab : DataW H) = Lib.tabData .u8 dbTab := rfl
theorem hl : Lib.deBruijn64tab.length = 64 := by decide
theorem dblen : dbTab.length = 64 := by rw [dbTab, List.length_map, hl]
theorem hg (idx k : Nat) (htab : Lib.deBruijn64tab.getD idx 0 = k) : dbTab.getD idx 0 = (k : Int) := by
  rw [dbTab, List.getD_eq_getElem?_getD, List.getElem?_map]
  rw [List.getD_eq_getElem?_getD] at htab
  generalize Lib.deBruijn64tab = L at htab
  cases h : L[idx]? with
  | none => rw [h] at htab; simp at htab; rw [← htab]; rfl
  | some x => rw [h] at htab; simp at htab; rw [htab]; rfl
theorem hcell {W : World} (h : Lib.TabIs Ybad.prog W "math/bits.deBruijn64tab" .u8 dbTab) (idx : Nat) (hi : idx < 64) : W.cell? ⟨8, idx, none⟩ = some (.int .u8 (dbTab.getD idx 0)) := h.cell gT idx (by rw [dblen]; exact hi)
theorem tz_of_tab {W : World} (h : Lib.TabIs Ybad.prog W "math/bits.deBruijn64tab" .u8 dbTab) : TzOk W := by
  intro k h4 h15
  have h1 := Lib.deBruijn64_at k (by omega)
  have hc := hcell h _ h1.1
  rw [hg _ k h1.2] at hc
  exact hc

set_option maxRecDepth 100000 in
theorem door_met (os : Os) (args : Array Value) : laidMetH Ybad.prog Rows.lawS6642CWholeRow.laid ((World.doorLaid Ybad.prog 400 os).forCall (fun _ _ => 0) ⟨#[], args, []⟩).memory :=
  laidMetH_of_parts3 (fuel := 8) (laidMet_of_run' 8 (by kernel_rfl) (by kernel_rfl)) (by kernel_rfl) (by kernel_rfl)
theorem of_laid {W : World} (h : laidMetH Ybad.prog Rows.lawS6642CWholeRow.laid W) : Lib.TabIs Ybad.prog W "math/bits.deBruijn64tab" .u8 dbTab := by
  rw [MakeChecks.laidMetH_plain _ _ _ (by kernel_rfl)] at h
  obtain ⟨ps, ⟨g0, t0, cs0, f0, p0, q0, hg0, ht0, hv0, hd0, ⟨g1, t1, cs1, f1, p1, q1, hg1, ht1, hv1, hd1, _, _⟩, _⟩, _, _⟩ := h
  obtain rfl := Option.some.inj (gT.symm.trans hg1)
  obtain rfl := Option.some.inj (tT.symm.trans ht1)
  rw [tab_eq] at hd1
  unfold Lib.TabIs
  rw [hv1, ← Lib.cells_of_tab (zs := dbTab) Ybad.underlying78 Ybad.underlying5 (by kernel_rfl) (by kernel_rfl) hd1]

theorem u32_bounds {a : Int} (h : (Lit.int .u32 a).wf = true) : 0 ≤ a ∧ a ≤ 4294967295 := by
  have h1 : IntKind.u32.min = 0 := by decide
  have h2 : IntKind.u32.max = 4294967295 := by decide
  simp [Lit.wf, h1, h2] at h
  omega

set_option maxRecDepth 100000 in
theorem lifted (os : Os) (started : os.Started) (H : Type) (enc : TypeId × Value → H) :
    ReturnsInHanded {} Ybad.checked os 4 .any (fun w args => (Rows.lawS6642CWholeSpec.pre enc Ybad.prog Ybad.f4 [] false w args ∧ laidMetH Ybad.prog Rows.lawS6642CWholeRow.laid w) ∧ sizedMet enc Ybad.prog Ybad.f4 (OpenSpec.ofChange Rows.lawS6642CWholeSpec) false w args)
      (Rows.lawS6642CWholeSpec.post enc Ybad.prog Ybad.f4 false true false false) := by
  refine returnsInHanded_of_change_and (C := Ybad.checked) (X := fun w _ => laidMetH Ybad.prog Rows.lawS6642CWholeRow.laid w) (fun _ _ _ hh h => h.of_heap hh) own started (by kernel_rfl) Ybad.func4
    (ChangeSpec.witness_shaped (enc := enc) (C := Ybad.checked) (os := os) (X := fun w _ => laidMetH Ybad.prog Rows.lawS6642CWholeRow.laid w) false (World.doorLaid Ybad.prog 400 os) #[.slice none 0 0, .int .i64 0, .slice none 0 0, .int .u32 0] 8 rfl (World.shaped_of_RefB (by kernel_rfl) (by kernel_rfl)) (by kernel_rfl) (by kernel_rfl) (by kernel_rfl) (door_met os _)) ?_
  intro W base args ds gs before hval0 hW _ hsz0 hL _
  have hval : ∀ (j : Nat) t v, Ybad.f4.params[j]? = some t → args[j]? = some v → Value.okWide Ybad.prog W .any base t v := hval0
  have hsz : (DataW.weightsEach Ybad.prog (Ybad.f4.params.toList ++ Rows.lawS6642CWholeSpec.plain.varTypes Ybad.prog) (ds ++ gs)).all (· ≤ reachBytes) = true := hsz0
  have hW' := hW
  obtain ⟨p, q, hA0, hV, rfl, hfz, hnd⟩ := hW'
  have hA : DataW.TrodAll enc Ybad.prog W 0 (fun _ => true) true Ybad.f4.params.toList args.toList ds p := hA0
  rw [Ybad.params4] at hA hval hsz
  obtain ⟨v0, vs0, d0, ds0, p0, q0, hargs, rfl, rfl, h0, r0⟩ := trodAll_cons hA
  obtain ⟨v1, vs1, d1, ds1, p1, q1, rfl, rfl, rfl, h1, r1⟩ := trodAll_cons r0
  obtain ⟨v2, vs2, d2, ds2, p2, q2, rfl, rfl, rfl, h2, r2⟩ := trodAll_cons r1
  obtain ⟨v3, vs3, d3, ds3, p3, q3, rfl, rfl, rfl, h3, r3⟩ := trodAll_cons r2
  obtain ⟨rfl, rfl, rfl⟩ := trodAll_nil r3
  obtain rfl : args = #[v0, v1, v2, v3] := by cases args; simp_all
  obtain ⟨rfl, rfl⟩ := trodVars_none hV
  have k0 := h0
  have lt0 : ∀ x ∈ p0, x.block < W.heap.size := by obtain ⟨m, hm⟩ := k0; exact DataW.trod_lt m _ _ _ hm
  have k2 := h2
  have lt2 : ∀ x ∈ p2, x.block < W.heap.size := by obtain ⟨m, hm⟩ := k2; exact DataW.trod_lt m _ _ _ hm
  have hw0 : ∀ x ∈ d0.weights Ybad.prog 25, x ≤ reachBytes := fun x hx => by
    have := List.all_eq_true.1 hsz x (by
      show _ ∈ DataW.weightsEach Ybad.prog (25 :: _) (d0 :: _)
      rw [DataW.weightsEach, List.mem_append]
      exact .inl hx)
    simpa using this
  have hw2 : ∀ x ∈ d2.weights Ybad.prog 26, x ≤ reachBytes := fun x hx => by
    have := List.all_eq_true.1 hsz x (by
      show _ ∈ DataW.weightsEach Ybad.prog (25 :: 3 :: 26 :: _) (d0 :: d1 :: d2 :: _)
      rw [DataW.weightsEach, DataW.weightsEach, DataW.weightsEach, List.mem_append, List.mem_append, List.mem_append]
      exact .inr (.inr (.inl hx)))
    simpa using this
  obtain ⟨a1, rfl, rfl, rfl, w1⟩ := open_int Ybad.underlying3 (hval 1 3 v1 rfl rfl) h1
  obtain ⟨a3, rfl, rfl, rfl, w3⟩ := open_int Ybad.underlying27 (hval 3 27 v3 rfl rfl) h3
  obtain ⟨aS, ls, cs, rfl⟩ := okWide_slice Ybad.underlying25 (hval 0 25 v0 rfl rfl)
  obtain ⟨aF, lf, cf, rfl⟩ := okWide_slice Ybad.underlying26 (hval 2 26 v2 rfl rfl)
  obtain ⟨sr, sa, sl, sc, sz, sb, hScr, hsl, hlm⟩ : ∃ sr sa sl sc sz sb, Scr W aS ls sr sa sl sc sz sb ∧ (∀ j, j < ls → sl j ≤ 17592186044416) ∧ ls ≤ 9223372036854775807 := by
    obtain ⟨fuel, hf⟩ := h0
    exact open_script (D := d0) (Pl := p0) (by simpa [Value.cells] using hf) hw0
  obtain ⟨z, hF, hlf⟩ : ∃ z, Reads W aF lf z ∧ lf ≤ 17592186044416 := by
    obtain ⟨fuel, hf⟩ := h2
    obtain ⟨q, e, hr, hb⟩ := open_is (D := d2) (Pl := p2) (v := .slice aF lf cf) (by simpa [Value.cells] using hf) hw2
    obtain ⟨qa, ql, qc, qz⟩ := q
    cases e
    exact ⟨qz, hr, hb⟩
  have hz : TzOk W := tz_of_tab (of_laid hL)
  obtain ⟨b0, b1⟩ := u32_bounds w3
  obtain ⟨s3, rfl⟩ : ∃ s3 : Nat, a3 = (s3 : Int) := ⟨a3.toNat, by omega⟩
  have walk : Calls Ybad.prog 4 #[.slice aS ls cs, .int .i64 a1, .slice aF lf cf, .int .u32 (s3 : Int)] W fun e w' => e = .returned (.bool true) ∧ Below W.heap.size W w' := by
    by_cases hbig : 64 < ls
    · exact law_big aS ls cs sr sa sl sc sz sb a1 aF lf cf _ W hScr hbig hlm
    · exact law_main aS ls cs sr sa sl sc sz sb a1 aF lf cf z s3 W hScr (by omega) hlf hsl hF hz (by omega)
  clear hA0 hval0
  refine walk.mono fun e W' ⟨he, bel⟩ => ?_
  subst he
  exact ⟨_, rfl, _, _, _, [], _, [], hW, trodAll_mk1 (shut_bool Ybad.underlying4 _), (trodAll_cons_mk (Below.trod laidOut (by kernel_rfl) (of_decide_eq_true (by kernel_rfl)) k0 bel lt0) (trodAll_cons_mk (shut_int Ybad.underlying3 w1) (trodAll_cons_mk (Below.trod laidOut (by kernel_rfl) (of_decide_eq_true (by kernel_rfl)) k2 bel lt2) (trodAll_cons_mk (shut_int Ybad.underlying27 w3) trodAll_mk0)))), rfl, bel.frame _, fun h => by cases h⟩
theorem row_holds : Rows.LawS6642CWholeSaid :=
  OpenClaim.holds_of_wide 4 Ybad.f4 rfl rfl rfl rfl rfl rfl rfl ⟨rfl, rfl, rfl, rfl, rfl⟩ rfl rfl rfl rfl rfl (by kernel_rfl) Ybad.func4 (by kernel_rfl)
    (of_decide_eq_true (by kernel_rfl)) (by unfold Func.isWrapper; first | (rw [if_pos (by decide +kernel)]; kernel_rfl) | (rw [if_neg (by decide +kernel)]; exact ⟨rfl, rfl⟩))
    (fun os started H enc _ => lifted os started H enc)
/-- THE STATEMENT -/
theorem proved : Rows.LawS6642CWholeCardSaid :=
  Claim7.holds_tied_plain_at .later [] [.data, .data] true (true, "36f8cda6c9f15c5b1fef7b3aca7ed30c048e0b26e6fcb89f00d4e21fd6933725") false
    row_holds (fun _ h => by cases h) (by kernel_rfl) (fun _ h => by cases h) lawS6642CWhole_row_tie rfl ⟨rfl, rfl⟩ (by kernel_rfl) rfl
    (fun f fn hf hfn => by
      obtain rfl : f = 4 := Option.some.inj ((show Ybad.prog.funcNamed "example.com/serialgraph/serialgraph.LawS6642CWhole" = some 4 by kernel_rfl).symm.trans hf) |>.symm
      obtain rfl : fn = Ybad.f4 := (Option.some.inj (Ybad.func4.symm.trans hfn)).symm
      exact ⟨by kernel_rfl, fun j t ht => by
        rw [Ybad.params4] at ht
        have hm : t ∈ [25, 3, 26, 27] := by simpa using Array.mem_of_getElem? ht
        have hall : ([25, 3, 26, 27].all fun u => !Ybad.prog.wantsStandIn u) = true := by kernel_rfl
        exact (show Ybad.prog.wantsStandIn t = false by simpa using List.all_eq_true.1 hall t hm)⟩)
    (by kernel_rfl)
end Go.Proofs.YbulkegnmDoor.lawS6642CWhole
