import Derived.Test.YbulkegmyWalk
import Derived.ProofKit
import Derived.OpenShut
import Derived.ShutString
import Derived.ChangeOld
namespace Go.Proofs.Ybulkegmy.lawS6641AWhole
open Go.ChangeShapes Go.WideShapes Go.ChangeAt Go.RowKit
open Go.ChangeMaps (open_string shut_string)
set_option linter.unusedVariables false

theorem own : ownKnob Yba.prog.godebug = none := by kernel_rfl
theorem laidOut : laidOutB Yba.prog = true := by kernel_rfl

theorem okWide_array {P : Program} {w : World} {r : Reach} {base : Nat} {t : TypeId} {v : Value} {n : Nat} {e : TypeId} (ht : P.underlying t = some (.array n e)) (h : Value.okWide P w r base t v) : ∃ cs, v = .agg cs ∧ cs.size = P.cellsOf t := by
  simp only [Value.okWide, ht] at h
  obtain ⟨cs, h1, h2, _⟩ := h
  exact ⟨cs, h1, h2⟩

/-- An array of bytes by value, opened. -/
theorem open_bytes {H : Type} {enc : TypeId × Value → H} {P : Program} {w : World} {base : Nat} {spare : Nat → Bool} {held : Bool} {fuel : Nat} {t e : TypeId} {n : Nat} {cs : List Value} {x : DataW H × List MemPlace}
    (ht : P.underlying t = some (.array n e)) (he : P.underlying e = some (.int .u8)) (c1 : P.cellsOf e = 1) (cn : P.cellsOf t = n)
    (h : DataW.trod enc P w base spare held fuel t cs = some x) : ∃ z : Nat → Int, cs = (List.range n).map (fun j => .int .u8 (z j)) := by
  obtain ⟨xs, m, _, _, hl, hx, hel⟩ := DataW.trod_array ht h
  have key : ∀ i, i < n → ∃ z : Int, cs[i]? = some (.int .u8 z) := by
    intro i hi
    have hE := hel i hi
    rw [c1, Nat.mul_one, List.getElem?_eq_getElem (by omega)] at hE
    obtain ⟨z, e1, _, _⟩ := DataW.trod_int he hE
    refine ⟨z, ?_⟩
    have h0 : ((cs.drop i).take 1)[0]? = some (.int .u8 z) := by rw [e1]; rfl
    simpa using h0
  refine ⟨fun i => match cs[i]? with | some (.int _ z) => z | _ => 0, ?_⟩
  apply List.ext_getElem?
  intro i
  by_cases hi : i < n
  · obtain ⟨z, hz⟩ := key i hi
    rw [List.getElem?_map, List.getElem?_range hi, Option.map_some]
    simp only [hz]
  · rw [List.getElem?_eq_none (by omega), List.getElem?_eq_none (by simp; omega)]

set_option maxRecDepth 100000 in
theorem lifted (os : Os) (started : os.Started) (H : Type) (enc : TypeId × Value → H) :
    ReturnsInHanded {} Yba.checked os 3 .any (Rows.lawS6641AWholeSpec.pre6 enc Yba.prog Yba.f3 Rows.lawS6641AWholeRow.domain false) (Rows.lawS6641AWholeSpec.post enc Yba.prog Yba.f3 false true false false) := by
  refine returnsInHanded_of_change (C := Yba.checked) own started (by kernel_rfl) Yba.func3
    (ChangeSpec.witness6 (enc := enc) (C := Yba.checked) false ⟨#[], #[.agg (arr32 (fun _ => 0)), .agg (arr16 (fun _ => 0))], []⟩ 8 (by kernel_rfl) (by kernel_rfl) (by kernel_rfl) (by kernel_rfl)) ?_
  intro W base args ds gs before hval0 hW hcnd _
  have hval : ∀ (j : Nat) t v, Yba.f3.params[j]? = some t → args[j]? = some v → Value.okWide Yba.prog W .any base t v := hval0
  have hW' := hW
  obtain ⟨p, q, hA0, hV, rfl, hfz, hnd⟩ := hW
  have hA : DataW.TrodAll enc Yba.prog W 0 (fun _ => true) true Yba.f3.params.toList args.toList ds p := hA0
  rw [Yba.params3] at hA hval
  obtain ⟨v0, vs0, d0, ds0, p0, q0, hargs, rfl, rfl, h0, r0⟩ := trodAll_cons hA
  obtain ⟨v1, vs1, d1, ds1, p1, q1, rfl, rfl, rfl, h1, r1⟩ := trodAll_cons r0
  obtain ⟨rfl, rfl, rfl⟩ := trodAll_nil r1
  obtain rfl : args = #[v0, v1] := by cases args; simp_all
  obtain ⟨rfl, rfl⟩ := trodVars_none hV
  have k0 := h0
  have lt0 : ∀ x ∈ p0, x.block < W.heap.size := by obtain ⟨m, hm⟩ := k0; exact DataW.trod_lt m _ _ _ hm
  have k1 := h1
  have lt1 : ∀ x ∈ p1, x.block < W.heap.size := by obtain ⟨m, hm⟩ := k1; exact DataW.trod_lt m _ _ _ hm
  obtain ⟨cs0, rfl, hs0⟩ := okWide_array Yba.underlying22 (hval 0 22 v0 rfl rfl)
  obtain ⟨cs1, rfl, hs1⟩ := okWide_array Yba.underlying23 (hval 1 23 v1 rfl rfl)
  obtain ⟨hz, rfl⟩ : ∃ hz, cs0 = arr32 hz := by
    obtain ⟨fuel, hf⟩ := h0
    obtain ⟨z, hz⟩ := open_bytes (n := 32) Yba.underlying22 Yba.underlying5 (by kernel_rfl) (by kernel_rfl) hf
    exact ⟨z, by apply Array.toList_inj.1; simpa [Value.cells, arr32] using hz⟩
  obtain ⟨kz, rfl⟩ : ∃ kz, cs1 = arr16 kz := by
    obtain ⟨fuel, hf⟩ := h1
    obtain ⟨z, hz⟩ := open_bytes (n := 16) Yba.underlying23 Yba.underlying5 (by kernel_rfl) (by kernel_rfl) hf
    exact ⟨z, by apply Array.toList_inj.1; simpa [Value.cells, arr16] using hz⟩
  clear hA0 hval0
  refine (law_walk hz kz W).mono fun e W' ⟨he, bel⟩ => ?_
  subst he
  exact ⟨_, rfl, _, _, _, [], _, [], hW', trodAll_mk1 (shut_bool Yba.underlying4 _), (trodAll_cons_mk (Below.trod laidOut (by kernel_rfl) (of_decide_eq_true (by kernel_rfl)) k0 bel lt0) (trodAll_cons_mk (Below.trod laidOut (by kernel_rfl) (of_decide_eq_true (by kernel_rfl)) k1 bel lt1) trodAll_mk0)), rfl, bel.frame _, fun h => by cases h⟩

theorem over : Rows.lawS6641AWholeRow.holds Yba.pinned (OpenSpec.ofChange Rows.lawS6641AWholeSpec) :=
  OpenClaim.holds_of_wide 3 Yba.f3 rfl rfl rfl rfl rfl rfl rfl ⟨rfl, rfl, rfl, rfl, rfl⟩ rfl rfl rfl rfl rfl (by kernel_rfl) Yba.func3 (by kernel_rfl)
    (of_decide_eq_true (by kernel_rfl)) (by unfold Func.isWrapper; first | (rw [if_pos (by decide +kernel)]; kernel_rfl) | (rw [if_neg (by decide +kernel)]; exact ⟨rfl, rfl⟩))
    (fun os started H enc _ => lifted os started H enc)

/-- THE STATEMENT -/
theorem proved : Rows.LawS6641AWholeSaid := over
end Go.Proofs.Ybulkegmy.lawS6641AWhole
