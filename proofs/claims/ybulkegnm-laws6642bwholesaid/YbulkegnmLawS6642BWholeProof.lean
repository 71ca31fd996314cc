import Derived.Test.YbulkegnmRows
import Derived.Test.YbulkegnmL
import Derived.Test.YbulkegnmN
import Derived.Deep.SlicePairs
import Derived.ProofKit
import Derived.OpenShut
import Derived.ShutString
import Derived.ChangeOld
import Derived.SliceStrings
namespace Go.Proofs.Ybulkegnm.lawS6642BWhole
open Go.ChangeShapes Go.WideShapes Go.ChangeAt Go.RowKit
open Go.ChangeMaps (open_string shut_string)
set_option linter.unusedVariables false
theorem own : ownKnob Yba.prog.godebug = none := by kernel_rfl
theorem laidOut : laidOutB Yba.prog = true := by kernel_rfl

set_option maxRecDepth 100000 in
theorem walk (a0 : Int) (a1 : Option Addr) (len1 cap1 : Nat) (z1 : Nat → Int) (a2 : Option Addr) (len2 cap2 : Nat) (zf zg : Nat → Int) (w : World)
    (w0 : (Lit.int .u8 a0).wf = true)
    (cell1 : 0 < len1 → ∃ b off, a1 = some ⟨b, off, none⟩ ∧ b < w.heap.size ∧ ∀ j, j < len1 → w.cell? ⟨b, off + j, none⟩ = some (.int .u8 (z1 j))) (wf1 : ∀ j, j < len1 → (Lit.int .u8 (z1 j)).wf = true)
    (cell2 : 0 < len2 → ∃ b off, a2 = some ⟨b, off, none⟩ ∧ ∀ j, j < len2 → w.cell? ⟨b, off + j * 2, none⟩ = some (.int .u8 (zf j)) ∧ w.cell? ⟨b, off + j * 2 + 1, none⟩ = some (.int .u8 (zg j))) (wf2 : ∀ j, j < len2 → (Lit.int .u8 (zf j)).wf = true ∧ (Lit.int .u8 (zg j)).wf = true) :
    Calls Yba.prog 3 #[.int .u8 a0, .slice a1 len1 cap1, .slice a2 len2 cap2] w fun e w' => e = .returned (.bool true) ∧ Below w.heap.size w w' := by
  by_cases hbig : 65536 < len1 ∨ 65536 < len2
  · exact law_big a0 a1 len1 cap1 a2 len2 cap2 w hbig
  · have b0 := bounds_u8 w0
    refine law_walk a0 a1 len1 cap1 z1 a2 len2 cap2 zf zg w b0.1 b0.2 (by omega) (by omega) ?_ (fun j hj => bounds_u8 (wf1 j hj)) cell2 (fun j hj => ?_)
    · intro h1
      obtain ⟨b, off, e, _, hc⟩ := cell1 h1
      exact ⟨b, off, e, hc⟩
    · have h1 := bounds_u8 (wf2 j hj).1
      have h2 := bounds_u8 (wf2 j hj).2
      exact ⟨h1.1, h1.2, h2.1, h2.2⟩

set_option maxRecDepth 100000 in
theorem lifted (os : Os) (started : os.Started) (H : Type) (enc : TypeId × Value → H) :
    ReturnsInHanded {} Yba.checked os 3 .any (Rows.lawS6642BWholeSpec.pre6 enc Yba.prog Yba.f3 Rows.lawS6642BWholeRow.domain false) (Rows.lawS6642BWholeSpec.post enc Yba.prog Yba.f3 false true false false) := by
  refine returnsInHanded_of_change (C := Yba.checked) own started (by kernel_rfl) Yba.func3
    (ChangeSpec.witness6 (enc := enc) (C := Yba.checked) false ⟨#[], #[.int .u8 0, .slice none 0 0, .slice none 0 0], []⟩ 8 (by kernel_rfl) (by kernel_rfl) (by kernel_rfl) (by kernel_rfl)) ?_
  intro W base args ds gs before hval0 hW hcnd _
  have hval : ∀ (j : Nat) t v, Yba.f3.params[j]? = some t → args[j]? = some v → Value.okWide Yba.prog W .any base t v := hval0
  have hW' := hW
  obtain ⟨p, q, hA0, hV, rfl, hfz, hnd⟩ := hW
  have hA : DataW.TrodAll enc Yba.prog W 0 (fun _ => true) true Yba.f3.params.toList args.toList ds p := hA0
  rw [Yba.params3] at hA hval
  obtain ⟨v0, vs0, d0, ds0, p0, q0, hargs, rfl, rfl, h0, r0⟩ := trodAll_cons hA
  obtain ⟨v1, vs1, d1, ds1, p1, q1, rfl, rfl, rfl, h1, r1⟩ := trodAll_cons r0
  obtain ⟨v2, vs2, d2, ds2, p2, q2, rfl, rfl, rfl, h2, r2⟩ := trodAll_cons r1
  obtain ⟨rfl, rfl, rfl⟩ := trodAll_nil r2
  obtain rfl : args = #[v0, v1, v2] := by cases args; simp_all
  obtain ⟨rfl, rfl⟩ := trodVars_none hV
  obtain ⟨a0, rfl, rfl, rfl, w0⟩ := open_int Yba.underlying5 (hval 0 5 v0 rfl rfl) h0
  have k1 := h1
  have lt1 : ∀ x ∈ p1, x.block < W.heap.size := by obtain ⟨m, hm⟩ := k1; exact DataW.trod_lt m _ _ _ hm
  obtain ⟨a1, len1, cap1, rfl⟩ := okWide_slice Yba.underlying22 (hval 1 22 v1 rfl rfl)
  obtain ⟨z1, nil1, le1, cell1, wf1⟩ : ∃ z1 : Nat → Int, (a1 = none → len1 = 0 ∧ cap1 = 0) ∧ (len1 ≤ cap1 ∧ cap1 ≤ maxLen) ∧ (0 < len1 → ∃ b off, a1 = some ⟨b, off, none⟩ ∧ b < W.heap.size ∧ ∀ j, j < len1 → W.cell? ⟨b, off + j, none⟩ = some (.int .u8 (z1 j))) ∧ (∀ j, j < len1 → (Lit.int .u8 (z1 j)).wf = true) := by
    obtain ⟨fuel, hf⟩ := h1
    rcases open_ints Yba.underlying22 Yba.underlying5 (by kernel_rfl) hf with ⟨hcs, _⟩ | ⟨x, l, c, zs, hcs, _, hl, hm, hz, _, hcell, hwz⟩
    · simp [Value.cells] at hcs
      obtain ⟨rfl, rfl, rfl⟩ := hcs
      exact ⟨fun _ => 0, fun _ => ⟨rfl, rfl⟩, ⟨Nat.le_refl _, by unfold maxLen; omega⟩, fun h => absurd h (by omega), fun j hj => absurd hj (by omega)⟩
    · simp [Value.cells] at hcs
      obtain ⟨rfl, rfl, rfl⟩ := hcs
      have hz : zs.length = cap1 := by simpa using hz
      refine ⟨fun j => zs.getD j 0, fun h => (by cases h), ⟨hl, hm⟩, fun h0 => ?_, fun j hj => ?_⟩
      · obtain ⟨b, off, spot⟩ := x
        have hspot : spot = none := by simpa [Addr.add] using World.cell?_spot (hcell 0 (by omega))
        subst hspot
        have hcell' : ∀ j, j < zs.length → W.cell? ⟨b, off + j, none⟩ = some (.int .u8 (zs.getD j 0)) := fun j hj => by rw [← add_plain]; exact hcell j hj
        exact ⟨b, off, rfl, cell_below (hcell' 0 (by omega)), fun j hj => hcell' j (by omega)⟩
      · refine hwz _ ?_
        show zs.getD j _ ∈ zs
        rw [List.getD_eq_getElem?_getD, List.getElem?_eq_getElem (by omega)]
        exact List.getElem_mem _
  have k2 := h2
  have lt2 : ∀ x ∈ p2, x.block < W.heap.size := by obtain ⟨m, hm⟩ := k2; exact DataW.trod_lt m _ _ _ hm
  clear hA0 hval0
  obtain ⟨a2, len2, cap2, rfl⟩ := okWide_slice Yba.underlying23 (hval 2 23 v2 rfl rfl)
  obtain ⟨zf, zg, cell2, wf2⟩ : ∃ zf zg : Nat → Int, (0 < len2 → ∃ b off, a2 = some ⟨b, off, none⟩ ∧ ∀ j, j < len2 → W.cell? ⟨b, off + j * 2, none⟩ = some (.int .u8 (zf j)) ∧ W.cell? ⟨b, off + j * 2 + 1, none⟩ = some (.int .u8 (zg j))) ∧ (∀ j, j < len2 → (Lit.int .u8 (zf j)).wf = true ∧ (Lit.int .u8 (zg j)).wf = true) := by
    obtain ⟨fuel, hf⟩ := h2
    rcases Go.Deep.open_slice_pairs Yba.underlying23 Yba.underlying35 (by kernel_rfl) rfl rfl (by kernel_rfl) (by kernel_rfl) hf with ⟨hcs, _⟩ | ⟨x, l, c, mm, k, V0, V1, D0, D1, P0, P1, hcs, _, hl, hm, hmm, hx, hall⟩
    · simp [Value.cells] at hcs
      obtain ⟨rfl, rfl, rfl⟩ := hcs
      exact ⟨fun _ => 0, fun _ => 0, fun h => absurd h (by omega), fun j hj => absurd hj (by omega)⟩
    · simp [Value.cells] at hcs
      obtain ⟨rfl, rfl, rfl⟩ := hcs
      have hlm : len2 ≤ mm := by rw [hmm]; split <;> omega
      have each : ∀ j, j < len2 → ∃ kk : Int × Int, V0 j = .int .u8 kk.1 ∧ V1 j = .int .u8 kk.2 ∧ (Lit.int .u8 kk.1).wf = true ∧ (Lit.int .u8 kk.2).wf = true := fun j hj => by
        obtain ⟨_, _, g0, g1⟩ := hall j (by omega)
        obtain ⟨s0, e0, _, m0⟩ := DataW.trod_int Yba.underlying5 g0
        obtain ⟨s1, e1, _, m1⟩ := DataW.trod_int Yba.underlying5 g1
        exact ⟨(s0, s1), by simpa using e0, by simpa using e1, m0, m1⟩
      refine ⟨fun j => if h : j < len2 then (Classical.choose (each j h)).1 else 0, fun j => if h : j < len2 then (Classical.choose (each j h)).2 else 0, fun h0 => ?_, fun j hj => ?_⟩
      · obtain ⟨b, off, spot⟩ := x
        have hspot : spot = none := by simpa [Addr.add] using World.cell?_spot (hall 0 (by omega)).1
        subst hspot
        refine ⟨b, off, rfl, fun j hj => ?_⟩
        have hc := Classical.choose_spec (each j hj)
        obtain ⟨g0, g1, _, _⟩ := hall j (by omega)
        rw [add_plain] at g0 g1
        simp only [dif_pos hj]
        exact ⟨g0.trans (congrArg some hc.1), by rw [show off + j * 2 + 1 = off + (j * 2 + 1) by omega]; exact g1.trans (congrArg some hc.2.1)⟩
      · simp only [dif_pos hj]
        exact (Classical.choose_spec (each j hj)).2.2

  refine (walk a0 a1 len1 cap1 z1 a2 len2 cap2 zf zg W w0 cell1 wf1 cell2 wf2).mono fun e W' ⟨he, bel⟩ => ?_
  subst he
  exact ⟨_, rfl, _, _, _, [], _, [], hW', trodAll_mk1 (shut_bool Yba.underlying4 _), (trodAll_cons_mk (shut_int Yba.underlying5 w0) (trodAll_cons_mk (Below.trod laidOut (by kernel_rfl) (of_decide_eq_true (by kernel_rfl)) k1 bel lt1) (trodAll_cons_mk (Below.trod laidOut (by kernel_rfl) (of_decide_eq_true (by kernel_rfl)) k2 bel lt2) trodAll_mk0))), rfl, bel.frame _, fun h => by cases h⟩
theorem over : Rows.lawS6642BWholeRow.holds Yba.pinned (OpenSpec.ofChange Rows.lawS6642BWholeSpec) :=
  OpenClaim.holds_of_wide 3 Yba.f3 rfl rfl rfl rfl rfl rfl rfl ⟨rfl, rfl, rfl, rfl, rfl⟩ rfl rfl rfl rfl rfl (by kernel_rfl) Yba.func3 (by kernel_rfl)
    (of_decide_eq_true (by kernel_rfl)) (by unfold Func.isWrapper; first | (rw [if_pos (by decide +kernel)]; kernel_rfl) | (rw [if_neg (by decide +kernel)]; exact ⟨rfl, rfl⟩))
    (fun os started H enc _ => lifted os started H enc)
/-- THE STATEMENT -/
theorem proved : Rows.LawS6642BWholeSaid := over
end Go.Proofs.Ybulkegnm.lawS6642BWhole
