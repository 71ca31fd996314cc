import Derived.Test.YbulkegkgGreatRows
import Derived.Test.YbulkegkgGreatL
import Derived.Test.YbulkegkgGreatZ
import Derived.Deep.SlicePairs
import Derived.ProofKit
import Derived.OpenShut
import Derived.ShutString
import Derived.ChangeOld
import Derived.SliceStrings
import Derived.SizedLaws
namespace Go.Proofs.YbulkegkgGreat.lawS6636CWhole
open Go.ChangeShapes Go.WideShapes Go.ChangeAt Go.RowKit
open Go.ChangeMaps (open_string shut_string)
set_option linter.unusedVariables false
theorem own : ownKnob Ybaz.prog.godebug = none := by kernel_rfl
theorem laidOut : laidOutB Ybaz.prog = true := by kernel_rfl

theorem u16_bounds {a : Int} (h : (Lit.int .u16 a).wf = true) : 0 ≤ a ∧ a ≤ 65535 := by
  have h1 : IntKind.u16.min = 0 := by decide
  have h2 : IntKind.u16.max = 65535 := by decide
  simp [Lit.wf, h1, h2] at h
  omega
theorem mem_weightsAll {H : Type} {P : Program} {e : TypeId} {d : DataW H} {x : Nat} (hx : x ∈ d.weights P e) : ∀ {l : List (DataW H)}, d ∈ l → x ∈ DataW.weightsAll P e l
  | [], h => by cases h
  | a :: r, h => by
    rw [DataW.weightsAll, List.mem_append]
    rcases List.mem_cons.1 h with e | e
    · left; rw [← e]; exact hx
    · right; exact mem_weightsAll hx e
set_option maxRecDepth 100000 in
theorem walk (a0 : Option Addr) (len0 cap0 : Nat) (z0 : Nat → K) (a1 : Option Addr) (len1 cap1 : Nat) (z1 : Nat → Int) (a2 a3 : ByteArray) (a4 a5 : Int) (a6 : Bool) (w : World)
    (cell0 : 0 < len0 → ∃ b off, a0 = some ⟨b, off, none⟩ ∧ ∀ j, j < len0 → w.cell? ⟨b, off + j * 2, none⟩ = some (.string (z0 j).1) ∧ w.cell? ⟨b, off + j * 2 + 1, none⟩ = some (.string (z0 j).2)) (sz0 : ∀ j, j < len0 → (z0 j).2.size ≤ 140737488355328)
    (cell1 : 0 < len1 → ∃ b off, a1 = some ⟨b, off, none⟩ ∧ b < w.heap.size ∧ ∀ j, j < len1 → w.cell? ⟨b, off + j, none⟩ = some (.int .u8 (z1 j))) (wf1 : ∀ j, j < len1 → (Lit.int .u8 (z1 j)).wf = true)
    (w4 : (Lit.int .u8 a4).wf = true) (w5 : (Lit.int .u16 a5).wf = true) :
    Calls Ybaz.prog 3 #[.slice a0 len0 cap0, .slice a1 len1 cap1, .string a2, .string a3, .int .u8 a4, .int .u16 a5, .bool a6] w fun e w' => e = .returned (.bool true) ∧ Below w.heap.size w w' := by
  by_cases hbig : 65536 < len0 ∨ 65536 < len1
  · exact law_big a0 len0 cap0 a1 len1 cap1 a2 a3 a4 a5 a6 w hbig
  · cases a6 with
    | true => exact law_nil a0 len0 cap0 a1 len1 cap1 a2 a3 a4 a5 w (by omega) (by omega)
    | false =>
      by_cases h0 : 0 < len0
      · have b4 := bounds_u8 w4
        have b5 := u16_bounds w5
        refine law_walk a0 len0 cap0 z0 a1 len1 cap1 z1 a2 a3 a4 a5 w h0 (by omega) (by omega) cell0 ?_ (fun j hj => bounds_u8 (wf1 j hj)) b4.1 b4.2 b5.1 b5.2 sz0
        intro h1
        obtain ⟨b, off, e, _, hc⟩ := cell1 h1
        exact ⟨b, off, e, hc⟩
      · obtain rfl : len0 = 0 := by omega
        exact law_empty a0 cap0 a1 len1 cap1 a2 a3 a4 a5 w (by omega)

set_option maxRecDepth 100000 in
theorem lifted (os : Os) (started : os.Started) (H : Type) (enc : TypeId × Value → H) :
    ReturnsInHanded {} Ybaz.checked os 3 .any (Rows.lawS6636CWholeSpec.pre6 enc Ybaz.prog Ybaz.f3 Rows.lawS6636CWholeRow.domain false) (Rows.lawS6636CWholeSpec.post enc Ybaz.prog Ybaz.f3 false true false false) := by
  refine returnsInHanded_of_change_sized (C := Ybaz.checked) own started (by kernel_rfl) Ybaz.func3
    (ChangeSpec.witness6 (enc := enc) (C := Ybaz.checked) false ⟨#[], #[.slice none 0 0, .slice none 0 0, .string ⟨#[]⟩, .string ⟨#[]⟩, .int .u8 0, .int .u16 0, .bool false], []⟩ 8 (by kernel_rfl) (by kernel_rfl) (by kernel_rfl) (by kernel_rfl)) ?_
  intro W base args ds gs before hval0 hW hcnd hsz0 _
  have hval : ∀ (j : Nat) t v, Ybaz.f3.params[j]? = some t → args[j]? = some v → Value.okWide Ybaz.prog W .any base t v := hval0
  have hsz : (DataW.weightsEach Ybaz.prog (Ybaz.f3.params.toList ++ Rows.lawS6636CWholeSpec.plain.varTypes Ybaz.prog) (ds ++ gs)).all (· ≤ reachBytes) = true := hsz0
  have hW' := hW
  obtain ⟨p, q, hA0, hV, rfl, hfz, hnd⟩ := hW
  have hA : DataW.TrodAll enc Ybaz.prog W 0 (fun _ => true) true Ybaz.f3.params.toList args.toList ds p := hA0
  rw [Ybaz.params3] at hA hval hsz
  obtain ⟨v0, vs0, d0, ds0, p0, q0, hargs, rfl, rfl, h0, r0⟩ := trodAll_cons hA
  obtain ⟨v1, vs1, d1, ds1, p1, q1, rfl, rfl, rfl, h1, r1⟩ := trodAll_cons r0
  obtain ⟨v2, vs2, d2, ds2, p2, q2, rfl, rfl, rfl, h2, r2⟩ := trodAll_cons r1
  obtain ⟨v3, vs3, d3, ds3, p3, q3, rfl, rfl, rfl, h3, r3⟩ := trodAll_cons r2
  obtain ⟨v4, vs4, d4, ds4, p4, q4, rfl, rfl, rfl, h4, r4⟩ := trodAll_cons r3
  obtain ⟨v5, vs5, d5, ds5, p5, q5, rfl, rfl, rfl, h5, r5⟩ := trodAll_cons r4
  obtain ⟨v6, vs6, d6, ds6, p6, q6, rfl, rfl, rfl, h6, r6⟩ := trodAll_cons r5
  obtain ⟨rfl, rfl, rfl⟩ := trodAll_nil r6
  obtain rfl : args = #[v0, v1, v2, v3, v4, v5, v6] := by cases args; simp_all
  obtain ⟨rfl, rfl⟩ := trodVars_none hV
  have k0 := h0
  have lt0 : ∀ x ∈ p0, x.block < W.heap.size := by obtain ⟨m, hm⟩ := k0; exact DataW.trod_lt m _ _ _ hm
  have k1 := h1
  have lt1 : ∀ x ∈ p1, x.block < W.heap.size := by obtain ⟨m, hm⟩ := k1; exact DataW.trod_lt m _ _ _ hm
  obtain ⟨a1, len1, cap1, rfl⟩ := okWide_slice Ybaz.underlying23 (hval 1 23 v1 rfl rfl)
  obtain ⟨z1, nil1, le1, cell1, wf1⟩ : ∃ z1 : Nat → Int, (a1 = none → len1 = 0 ∧ cap1 = 0) ∧ (len1 ≤ cap1 ∧ cap1 ≤ maxLen) ∧ (0 < len1 → ∃ b off, a1 = some ⟨b, off, none⟩ ∧ b < W.heap.size ∧ ∀ j, j < len1 → W.cell? ⟨b, off + j, none⟩ = some (.int .u8 (z1 j))) ∧ (∀ j, j < len1 → (Lit.int .u8 (z1 j)).wf = true) := by
    obtain ⟨fuel, hf⟩ := h1
    rcases open_ints Ybaz.underlying23 Ybaz.underlying5 (by kernel_rfl) hf with ⟨hcs, _⟩ | ⟨x, l, c, zs, hcs, _, hl, hm, hz, _, hcell, hwz⟩
    · simp [Value.cells] at hcs
      obtain ⟨rfl, rfl, rfl⟩ := hcs
      exact ⟨fun _ => 0, fun _ => ⟨rfl, rfl⟩, ⟨Nat.le_refl _, by unfold maxLen; omega⟩, fun h => absurd h (by omega), fun j hj => absurd hj (by omega)⟩
    · simp [Value.cells] at hcs
      obtain ⟨rfl, rfl, rfl⟩ := hcs
      have hz : zs.length = cap1 := by simpa using hz
      refine ⟨fun j => zs.getD j 0, fun h => (by cases h), ⟨hl, hm⟩, fun h0 => ?_, fun j hj => ?_⟩
      · obtain ⟨b, off, spot⟩ := x
        have hspot : spot = none := by simpa [Addr.add] using World.cell?_spot (hcell 0 (by omega))
        subst hspot
        have hcell' : ∀ j, j < zs.length → W.cell? ⟨b, off + j, none⟩ = some (.int .u8 (zs.getD j 0)) := fun j hj => by rw [← add_plain]; exact hcell j hj
        exact ⟨b, off, rfl, cell_below (hcell' 0 (by omega)), fun j hj => hcell' j (by omega)⟩
      · refine hwz _ ?_
        show zs.getD j _ ∈ zs
        rw [List.getD_eq_getElem?_getD, List.getElem?_eq_getElem (by omega)]
        exact List.getElem_mem _
  obtain ⟨a2, rfl, rfl, rfl, w2⟩ := open_string Ybaz.underlying9 (hval 2 9 v2 rfl rfl) h2
  obtain ⟨a3, rfl, rfl, rfl, w3⟩ := open_string Ybaz.underlying9 (hval 3 9 v3 rfl rfl) h3
  obtain ⟨a4, rfl, rfl, rfl, w4⟩ := open_int Ybaz.underlying5 (hval 4 5 v4 rfl rfl) h4
  obtain ⟨a5, rfl, rfl, rfl, w5⟩ := open_int Ybaz.underlying24 (hval 5 24 v5 rfl rfl) h5
  obtain ⟨a6, rfl, rfl, rfl⟩ := open_bool Ybaz.underlying4 (hval 6 4 v6 rfl rfl) h6
  clear hA0 hval0
  obtain ⟨a0, len0, cap0, rfl⟩ := okWide_slice Ybaz.underlying22 (hval 0 22 v0 rfl rfl)
  obtain ⟨z0, cell0, sz0⟩ : ∃ z0 : Nat → K, (0 < len0 → ∃ b off, a0 = some ⟨b, off, none⟩ ∧ ∀ j, j < len0 → W.cell? ⟨b, off + j * 2, none⟩ = some (.string (z0 j).1) ∧ W.cell? ⟨b, off + j * 2 + 1, none⟩ = some (.string (z0 j).2)) ∧ (∀ j, j < len0 → (z0 j).2.size ≤ reachBytes) := by
    obtain ⟨fuel, hf⟩ := h0
    rcases Go.Deep.open_slice_pairs Ybaz.underlying22 Ybaz.underlying31 (by kernel_rfl) rfl rfl (by kernel_rfl) (by kernel_rfl) hf with ⟨hcs, _⟩ | ⟨x, l, c, mm, k, V0, V1, D0, D1, P0, P1, hcs, _, hl, hm, hmm, hx, hall⟩
    · simp [Value.cells] at hcs
      obtain ⟨rfl, rfl, rfl⟩ := hcs
      exact ⟨fun _ => (ByteArray.empty, ByteArray.empty), fun h => absurd h (by omega), fun j hj => absurd hj (by omega)⟩
    · simp [Value.cells] at hcs
      obtain ⟨rfl, rfl, rfl⟩ := hcs
      have hlm : len0 ≤ mm := by rw [hmm]; split <;> omega
      have each : ∀ j, j < len0 → ∃ kk : K, V0 j = .string kk.1 ∧ V1 j = .string kk.2 ∧ kk.2.size ≤ reachBytes := fun j hj => by
        obtain ⟨_, _, g0, g1⟩ := hall j (by omega)
        obtain ⟨s0, e0, _, _⟩ := DataW.trod_string Ybaz.underlying9 g0
        obtain ⟨s1, e1, q1, m1⟩ := DataW.trod_string Ybaz.underlying9 g1
        have hD : D1 j = .lit (.string s1.data.toList) := congrArg Prod.fst q1
        have hd0 : d0 = .slice ((List.range len0).map fun i => .agg [D0 i, D1 i]) ((List.range (mm - len0)).map fun j => .agg [D0 (len0 + j), D1 (len0 + j)]) := congrArg Prod.fst hx
        have hw : s1.data.toList.length ∈ (DataW.agg [D0 j, D1 j]).weights Ybaz.prog 31 := by
          rw [DataW.weights, Ybaz.underlying31]
          simp [DataW.weightsEach, hD, DataW.weights]
        have hw2 := mem_weightsAll hw (l := (List.range len0).map fun i => .agg [D0 i, D1 i]) (List.mem_map.2 ⟨j, List.mem_range.2 hj, rfl⟩)
        have hw3 : s1.data.toList.length ∈ d0.weights Ybaz.prog 22 := by
          rw [hd0, DataW.weights, Ybaz.underlying22]
          exact List.mem_cons_of_mem _ (List.mem_append_left _ hw2)
        have hle : s1.data.toList.length ≤ reachBytes := by
          have := List.all_eq_true.1 hsz s1.data.toList.length (by
            show _ ∈ DataW.weightsEach Ybaz.prog (22 :: _) (d0 :: _)
            rw [DataW.weightsEach, List.mem_append]
            exact .inl hw3)
          simpa using this
        exact ⟨(s0, s1), by simpa using e0, by simpa using e1, (by show s1.data.size ≤ reachBytes; rw [← Array.length_toList]; exact hle)⟩
      refine ⟨fun j => if h : j < len0 then Classical.choose (each j h) else (ByteArray.empty, ByteArray.empty), fun h0 => ?_, fun j hj => ?_⟩
      · obtain ⟨b, off, spot⟩ := x
        have hspot : spot = none := by simpa [Addr.add] using World.cell?_spot (hall 0 (by omega)).1
        subst hspot
        refine ⟨b, off, rfl, fun j hj => ?_⟩
        have hc := Classical.choose_spec (each j hj)
        obtain ⟨g0, g1, _, _⟩ := hall j (by omega)
        rw [add_plain] at g0 g1
        simp only [dif_pos hj]
        exact ⟨g0.trans (congrArg some hc.1), by rw [show off + j * 2 + 1 = off + (j * 2 + 1) by omega]; exact g1.trans (congrArg some hc.2.1)⟩
      · simp only [dif_pos hj]
        exact (Classical.choose_spec (each j hj)).2.2

  refine (walk a0 len0 cap0 z0 a1 len1 cap1 z1 a2 a3 a4 a5 a6 W cell0 (by intro j hj; have := sz0 j hj; unfold reachBytes at this; omega) cell1 wf1 w4 w5).mono fun e W' ⟨he, bel⟩ => ?_
  subst he
  exact ⟨_, rfl, _, _, _, [], _, [], hW', trodAll_mk1 (shut_bool Ybaz.underlying4 _), (trodAll_cons_mk (Below.trod laidOut (by kernel_rfl) (of_decide_eq_true (by kernel_rfl)) k0 bel lt0) (trodAll_cons_mk (Below.trod laidOut (by kernel_rfl) (of_decide_eq_true (by kernel_rfl)) k1 bel lt1) (trodAll_cons_mk (shut_string Ybaz.underlying9 w2) (trodAll_cons_mk (shut_string Ybaz.underlying9 w3) (trodAll_cons_mk (shut_int Ybaz.underlying5 w4) (trodAll_cons_mk (shut_int Ybaz.underlying24 w5) (trodAll_cons_mk (shut_bool Ybaz.underlying4 a6) trodAll_mk0))))))), rfl, bel.frame _, fun h => by cases h⟩
theorem over : Rows.lawS6636CWholeRow.holds Ybaz.pinned (OpenSpec.ofChange Rows.lawS6636CWholeSpec) :=
  OpenClaim.holds_of_wide 3 Ybaz.f3 rfl rfl rfl rfl rfl rfl rfl ⟨rfl, rfl, rfl, rfl, rfl⟩ rfl rfl rfl rfl rfl (by kernel_rfl) Ybaz.func3 (by kernel_rfl)
    (of_decide_eq_true (by kernel_rfl)) (by unfold Func.isWrapper; first | (rw [if_pos (by decide +kernel)]; kernel_rfl) | (rw [if_neg (by decide +kernel)]; exact ⟨rfl, rfl⟩))
    (fun os started H enc _ => lifted os started H enc)
/-- THE STATEMENT -/
theorem proved : Rows.LawS6636CWholeSaid := over
end Go.Proofs.YbulkegkgGreat.lawS6636CWhole
