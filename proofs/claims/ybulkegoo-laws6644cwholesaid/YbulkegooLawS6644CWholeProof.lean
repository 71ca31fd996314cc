import Derived.Test.YbulkegooC3
import Derived.ProofKit
import Derived.OpenShut
import Derived.ShutString
import Derived.ChangeOld
import Derived.SliceStrings
namespace Go.Proofs.Ybulkegoo.lawS6644CWhole
open Go.ChangeShapes Go.WideShapes Go.ChangeAt Go.RowKit
open Go.ChangeMaps (open_string shut_string)
set_option linter.unusedVariables false
theorem own : ownKnob Yba.prog.godebug = none := by kernel_rfl
theorem laidOut : laidOutB Yba.prog = true := by kernel_rfl

set_option maxRecDepth 100000 in
theorem walk (a0 : Option Addr) (len0 cap0 : Nat) (z0 : Nat → ByteArray) (a1 : Option Addr) (len1 cap1 : Nat) (z1 : Nat → Int) (a2 : Bool) (a3 : Int) (a4 : ByteArray) (w : World)
    (cell0 : 0 < len0 → ∃ b off, a0 = some ⟨b, off, none⟩ ∧ b < w.heap.size ∧ ∀ j, j < len0 → w.cell? ⟨b, off + j, none⟩ = some (.string (z0 j))) (wf0 : ∀ j, j < len0 → (z0 j).size ≤ maxLen)
    (le1 : len1 ≤ cap1 ∧ cap1 ≤ maxLen) (cell1 : 0 < len1 → ∃ b off, a1 = some ⟨b, off, none⟩ ∧ b < w.heap.size ∧ ∀ j, j < len1 → w.cell? ⟨b, off + j, none⟩ = some (.int .i64 (z1 j)))
    (w3 : (Lit.int .u8 a3).wf = true) (w4 : a4.size ≤ maxLen) :
    Calls Yba.prog 4 #[.slice a0 len0 cap0, .slice a1 len1 cap1, .bool a2, .int .u8 a3, .string a4] w fun e w' => e = .returned (.bool true) ∧ Below w.heap.size w w' := by
  by_cases hbig : 4096 < len0
  · have hd : decide ((4096 : Int) < (len0 : Int)) = true := by simp; omega
    go_enter Yba.func4, Yba.ntmps4
    go_wp2
    go_ret
    exact ⟨rfl, Below.refl _ _⟩
  · have b3 := bounds_u8 w3
    refine lawC_walk a0 len0 cap0 z0 a1 len1 cap1 z1 a2 a3 a4 w (by omega) ?_ ?_ b3.1 b3.2 wf0 w4 (by omega)
    · intro h0
      obtain ⟨b, off, e, _, hc⟩ := cell0 h0
      exact ⟨b, off, e, hc⟩
    · intro h0
      obtain ⟨b, off, e, _, hc⟩ := cell1 h0
      exact ⟨b, off, e, hc⟩

set_option maxRecDepth 100000 in
theorem lifted (os : Os) (started : os.Started) (H : Type) (enc : TypeId × Value → H) :
    ReturnsInHanded {} Yba.checked os 4 .any (Rows.lawS6644CWholeSpec.pre6 enc Yba.prog Yba.f4 Rows.lawS6644CWholeRow.domain false) (Rows.lawS6644CWholeSpec.post enc Yba.prog Yba.f4 false true false false) := by
  refine returnsInHanded_of_change (C := Yba.checked) own started (by kernel_rfl) Yba.func4
    (ChangeSpec.witness6 (enc := enc) (C := Yba.checked) false ⟨#[], #[.slice none 0 0, .slice none 0 0, .bool false, .int .u8 0, .string ⟨#[]⟩], []⟩ 8 (by kernel_rfl) (by kernel_rfl) (by kernel_rfl) (by kernel_rfl)) ?_
  intro W base args ds gs before hval0 hW hcnd _
  have hval : ∀ (j : Nat) t v, Yba.f4.params[j]? = some t → args[j]? = some v → Value.okWide Yba.prog W .any base t v := hval0
  have hW' := hW
  obtain ⟨p, q, hA0, hV, rfl, hfz, hnd⟩ := hW
  have hA : DataW.TrodAll enc Yba.prog W 0 (fun _ => true) true Yba.f4.params.toList args.toList ds p := hA0
  rw [Yba.params4] at hA hval
  obtain ⟨v0, vs0, d0, ds0, p0, q0, hargs, rfl, rfl, h0, r0⟩ := trodAll_cons hA
  obtain ⟨v1, vs1, d1, ds1, p1, q1, rfl, rfl, rfl, h1, r1⟩ := trodAll_cons r0
  obtain ⟨v2, vs2, d2, ds2, p2, q2, rfl, rfl, rfl, h2, r2⟩ := trodAll_cons r1
  obtain ⟨v3, vs3, d3, ds3, p3, q3, rfl, rfl, rfl, h3, r3⟩ := trodAll_cons r2
  obtain ⟨v4, vs4, d4, ds4, p4, q4, rfl, rfl, rfl, h4, r4⟩ := trodAll_cons r3
  obtain ⟨rfl, rfl, rfl⟩ := trodAll_nil r4
  obtain rfl : args = #[v0, v1, v2, v3, v4] := by cases args; simp_all
  obtain ⟨rfl, rfl⟩ := trodVars_none hV
  have k0 := h0
  have lt0 : ∀ x ∈ p0, x.block < W.heap.size := by obtain ⟨m, hm⟩ := k0; exact DataW.trod_lt m _ _ _ hm
  obtain ⟨a0, len0, cap0, rfl⟩ := okWide_slice Yba.underlying22 (hval 0 22 v0 rfl rfl)
  obtain ⟨z0, nil0, le0, cell0, wf0⟩ : ∃ z0 : Nat → ByteArray, (a0 = none → len0 = 0 ∧ cap0 = 0) ∧ (len0 ≤ cap0 ∧ cap0 ≤ maxLen) ∧ (0 < len0 → ∃ b off, a0 = some ⟨b, off, none⟩ ∧ b < W.heap.size ∧ ∀ j, j < len0 → W.cell? ⟨b, off + j, none⟩ = some (.string (z0 j))) ∧ (∀ j, j < len0 → (z0 j).size ≤ maxLen) := by
    obtain ⟨fuel, hf⟩ := h0
    rcases open_strings Yba.underlying22 Yba.underlying9 (by kernel_rfl) hf with ⟨hcs, _⟩ | ⟨x, l, c, zs, hcs, _, hl, hm, hz, _, hcell, hwz⟩
    · simp [Value.cells] at hcs
      obtain ⟨rfl, rfl, rfl⟩ := hcs
      exact ⟨fun _ => ByteArray.empty, fun _ => ⟨rfl, rfl⟩, ⟨Nat.le_refl _, by unfold maxLen; omega⟩, fun h => absurd h (by omega), fun j hj => absurd hj (by omega)⟩
    · simp [Value.cells] at hcs
      obtain ⟨rfl, rfl, rfl⟩ := hcs
      have hz : zs.length = cap0 := by simpa using hz
      refine ⟨fun j => zs.getD j ByteArray.empty, fun h => (by cases h), ⟨hl, hm⟩, fun h0 => ?_, fun j hj => ?_⟩
      · obtain ⟨b, off, spot⟩ := x
        have hspot : spot = none := by simpa [Addr.add] using World.cell?_spot (hcell 0 (by omega))
        subst hspot
        have hcell' : ∀ j, j < zs.length → W.cell? ⟨b, off + j, none⟩ = some (.string (zs.getD j ByteArray.empty)) := fun j hj => by rw [← add_plain]; exact hcell j hj
        exact ⟨b, off, rfl, cell_below (hcell' 0 (by omega)), fun j hj => hcell' j (by omega)⟩
      · refine hwz _ ?_
        show zs.getD j _ ∈ zs
        rw [List.getD_eq_getElem?_getD, List.getElem?_eq_getElem (by omega)]
        exact List.getElem_mem _
  have k1 := h1
  have lt1 : ∀ x ∈ p1, x.block < W.heap.size := by obtain ⟨m, hm⟩ := k1; exact DataW.trod_lt m _ _ _ hm
  obtain ⟨a1, len1, cap1, rfl⟩ := okWide_slice Yba.underlying40 (hval 1 40 v1 rfl rfl)
  obtain ⟨z1, nil1, le1, cell1, wf1⟩ : ∃ z1 : Nat → Int, (a1 = none → len1 = 0 ∧ cap1 = 0) ∧ (len1 ≤ cap1 ∧ cap1 ≤ maxLen) ∧ (0 < len1 → ∃ b off, a1 = some ⟨b, off, none⟩ ∧ b < W.heap.size ∧ ∀ j, j < len1 → W.cell? ⟨b, off + j, none⟩ = some (.int .i64 (z1 j))) ∧ (∀ j, j < len1 → (Lit.int .i64 (z1 j)).wf = true) := by
    obtain ⟨fuel, hf⟩ := h1
    rcases open_ints Yba.underlying40 Yba.underlying3 (by kernel_rfl) hf with ⟨hcs, _⟩ | ⟨x, l, c, zs, hcs, _, hl, hm, hz, _, hcell, hwz⟩
    · simp [Value.cells] at hcs
      obtain ⟨rfl, rfl, rfl⟩ := hcs
      exact ⟨fun _ => 0, fun _ => ⟨rfl, rfl⟩, ⟨Nat.le_refl _, by unfold maxLen; omega⟩, fun h => absurd h (by omega), fun j hj => absurd hj (by omega)⟩
    · simp [Value.cells] at hcs
      obtain ⟨rfl, rfl, rfl⟩ := hcs
      have hz : zs.length = cap1 := by simpa using hz
      refine ⟨fun j => zs.getD j 0, fun h => (by cases h), ⟨hl, hm⟩, fun h0 => ?_, fun j hj => ?_⟩
      · obtain ⟨b, off, spot⟩ := x
        have hspot : spot = none := by simpa [Addr.add] using World.cell?_spot (hcell 0 (by omega))
        subst hspot
        have hcell' : ∀ j, j < zs.length → W.cell? ⟨b, off + j, none⟩ = some (.int .i64 (zs.getD j 0)) := fun j hj => by rw [← add_plain]; exact hcell j hj
        exact ⟨b, off, rfl, cell_below (hcell' 0 (by omega)), fun j hj => hcell' j (by omega)⟩
      · refine hwz _ ?_
        show zs.getD j _ ∈ zs
        rw [List.getD_eq_getElem?_getD, List.getElem?_eq_getElem (by omega)]
        exact List.getElem_mem _
  obtain ⟨a2, rfl, rfl, rfl⟩ := open_bool Yba.underlying4 (hval 2 4 v2 rfl rfl) h2
  obtain ⟨a3, rfl, rfl, rfl, w3⟩ := open_int Yba.underlying5 (hval 3 5 v3 rfl rfl) h3
  obtain ⟨a4, rfl, rfl, rfl, w4⟩ := open_string Yba.underlying9 (hval 4 9 v4 rfl rfl) h4
  clear hA0 hval0
  refine (walk a0 len0 cap0 z0 a1 len1 cap1 z1 a2 a3 a4 W cell0 wf0 le1 cell1 w3 (by simpa using w4)).mono fun e W' ⟨he, bel⟩ => ?_
  subst he
  exact ⟨_, rfl, _, _, _, [], _, [], hW', trodAll_mk1 (shut_bool Yba.underlying4 _), (trodAll_cons_mk (Below.trod laidOut (by kernel_rfl) (of_decide_eq_true (by kernel_rfl)) k0 bel lt0) (trodAll_cons_mk (Below.trod laidOut (by kernel_rfl) (of_decide_eq_true (by kernel_rfl)) k1 bel lt1) (trodAll_cons_mk (shut_bool Yba.underlying4 a2) (trodAll_cons_mk (shut_int Yba.underlying5 w3) (trodAll_cons_mk (shut_string Yba.underlying9 w4) trodAll_mk0))))), rfl, bel.frame _, fun h => by cases h⟩
theorem over : Rows.lawS6644CWholeRow.holds Yba.pinned (OpenSpec.ofChange Rows.lawS6644CWholeSpec) :=
  OpenClaim.holds_of_wide 4 Yba.f4 rfl rfl rfl rfl rfl rfl rfl ⟨rfl, rfl, rfl, rfl, rfl⟩ rfl rfl rfl rfl rfl (by kernel_rfl) Yba.func4 (by kernel_rfl)
    (of_decide_eq_true (by kernel_rfl)) (by unfold Func.isWrapper; first | (rw [if_pos (by decide +kernel)]; kernel_rfl) | (rw [if_neg (by decide +kernel)]; exact ⟨rfl, rfl⟩))
    (fun os started H enc _ => lifted os started H enc)
/-- THE STATEMENT -/
theorem proved : Rows.LawS6644CWholeSaid := over
end Go.Proofs.Ybulkegoo.lawS6644CWhole
