import Derived.Test.YbulkegnmDoorL1
import Derived.Deep.Slices
import Derived.ProofKit
import Derived.SizedLaws
import Derived.ChangeSame
namespace Go.Proofs.YbulkegnmDoor
open Go Go.ChangeShapes Go.WideShapes Go.ChangeAt Go.RowKit

theorem mem_weightsAll {H : Type} {P : Program} {e : TypeId} {d : DataW H} {x : Nat} (hx : x ∈ d.weights P e) : ∀ {l : List (DataW H)}, d ∈ l → x ∈ DataW.weightsAll P e l
  | [], h => by cases h
  | a :: r, h => by
    rw [DataW.weightsAll, List.mem_append]
    rcases List.mem_cons.1 h with e | e
    · left; rw [← e]; exact hx
    · right; exact mem_weightsAll hx e
theorem bytes3 : Ybad.prog.bytesOf 3 = 8 := by kernel_rfl
/-- A slice of ints, opened: it reads as some z, and is no longer than the form's reach. -/
theorem open_is {H : Type} {enc : TypeId × Value → H} {W : World} {fuel : Nat} {v : Value} {D : DataW H} {Pl : List MemPlace} (h : DataW.trod enc Ybad.prog W 0 (fun _ => true) true fuel 26 [v] = some (D, Pl)) (hw : ∀ x ∈ D.weights Ybad.prog 26, x ≤ reachBytes) :
    ∃ q : Option Addr × Nat × Nat × (Nat → Int), v = .slice q.1 q.2.1 q.2.2.1 ∧ Reads W q.1 q.2.1 q.2.2.2 ∧ q.2.1 ≤ 17592186044416 := by
  rcases open_ints Ybad.underlying26 Ybad.underlying3 (by kernel_rfl) h with ⟨hcs, _⟩ | ⟨x, l, c, zs, hcs, _, hl, hm, hz, hx, hcell, hwz⟩
  · simp at hcs
    exact ⟨(none, 0, 0, fun _ => 0), hcs, fun h => absurd h (by simp), by simp⟩
  · simp at hcs
    have hz : zs.length = c := by simpa using hz
    have hD : D = .slice (lits .i64 (zs.take l)) (lits .i64 (zs.drop l)) := congrArg Prod.fst hx
    have hwl : (zs.take l).length * 8 + (zs.drop l).length * 8 ≤ reachBytes := by
      refine hw _ ?_
      rw [hD, DataW.weights, Ybad.underlying26]
      refine List.mem_cons.2 (.inl ?_)
      rw [bytes3]
      simp only [lits, List.length_map]
      omega
    refine ⟨(some x, l, c, fun j => zs.getD j 0), hcs, fun h0 => ?_, ?_⟩
    · obtain ⟨b, off, spot⟩ := x
      have hspot : spot = none := by
        have h1 : 0 < l := h0
        simpa [Addr.add] using World.cell?_spot (hcell 0 (by omega))
      subst hspot
      exact ⟨b, off, rfl, fun j hj => by
        have h1 : j < l := hj
        rw [← add_plain]; exact hcell j (by omega)⟩
    · show l ≤ 17592186044416
      simp at hwl
      unfold reachBytes at hwl
      omega
/-- The script, opened. -/
theorem open_script {H : Type} {enc : TypeId × Value → H} {W : World} {fuel : Nat} {aS : Option Addr} {ls cs : Nat} {D : DataW H} {Pl : List MemPlace} (h : DataW.trod enc Ybad.prog W 0 (fun _ => true) true fuel 25 [.slice aS ls cs] = some (D, Pl)) (hw : ∀ x ∈ D.weights Ybad.prog 25, x ≤ reachBytes) :
    ∃ sr sa sl sc sz sb, Scr W aS ls sr sa sl sc sz sb ∧ (∀ j, j < ls → sl j ≤ 17592186044416) ∧ ls ≤ 9223372036854775807 := by
  rcases Go.Deep.open_slice Ybad.underlying25 h with ⟨hcs, _⟩ | ⟨a, len, cap, m, n, D', Pl', hcs, hb, hl, hm, hmm, hx, hall⟩
  · simp at hcs
    obtain ⟨rfl, rfl, rfl⟩ := hcs
    exact ⟨fun _ => 0, fun _ => none, fun _ => 0, fun _ => 0, fun _ _ => 0, fun _ => false, ⟨fun h => absurd h (by omega), fun j hj => absurd hj (by omega)⟩, fun j hj => absurd hj (by omega), by omega⟩
  · simp at hcs
    obtain ⟨rfl, rfl, rfl⟩ := hcs
    have hmc : m = cs := by simpa using hmm
    have hD : D = .slice ((List.range ls).map D') ((List.range (m - ls)).map fun j => D' (ls + j)) := congrArg Prod.fst hx
    have ce : Ybad.prog.cellsOf 29 = 3 := by kernel_rfl
    have c3 : Ybad.prog.cellsOf 3 = 1 := by kernel_rfl
    have c26 : Ybad.prog.cellsOf 26 = 1 := by kernel_rfl
    have c4 : Ybad.prog.cellsOf 4 = 1 := by kernel_rfl
    have each : ∀ i, i < ls → ∃ q : Int × (Option Addr × Nat × Nat × (Nat → Int)) × Bool, W.cell? (a.add (i * 3)) = some (.int .i64 q.1) ∧ W.cell? (a.add (i * 3 + 1)) = some (.slice q.2.1.1 q.2.1.2.1 q.2.1.2.2.1) ∧ W.cell? (a.add (i * 3 + 2)) = some (.bool q.2.2) ∧ Reads W q.2.1.1 q.2.1.2.1 q.2.1.2.2.2 ∧ q.2.1.2.1 ≤ 17592186044416 := by
      intro i hi
      obtain ⟨cs', h1, h2⟩ := hall i (by omega)
      rw [ce] at h1
      obtain ⟨_, hlen, hcell⟩ := World.cells?_some h1
      obtain ⟨xs, k, hk, hxy, _, hxl, hf⟩ := DataW.trod_struct Ybad.underlying29 h2
      match xs, hxl, cs', hlen with
      | [y0, y1, y2], _, [v0, v1, v2], _ =>
        have g0 := hf 0 _ rfl
        have g1 := hf 1 _ rfl
        have g2 := hf 2 _ rfl
        simp [c3, c26, c4] at g0 g1 g2
        have e0 := hcell 0 (by omega)
        have e1 := hcell 1 (by omega)
        have e2 := hcell 2 (by omega)
        rw [Go.Deep.add_add] at e0 e1 e2
        simp only [Prod.mk.injEq] at hxy
        obtain ⟨z0, hz0, _, _⟩ := DataW.trod_int Ybad.underlying3 g0
        obtain ⟨b0, hb0, _⟩ := DataW.trod_bool Ybad.underlying4 g2
        have hDi : D' i = .agg [y0.1, y1.1, y2.1] := by simpa using hxy.1
        obtain ⟨q, hq1, hq2, hq3⟩ := open_is (D := y1.1) (Pl := y1.2) g1 (fun x hx => by
          refine hw x ?_
          rw [hD, DataW.weights, Ybad.underlying25]
          refine List.mem_cons_of_mem _ (List.mem_append_left _ (mem_weightsAll (d := D' i) ?_ (List.mem_map.2 ⟨i, List.mem_range.2 hi, rfl⟩)))
          rw [hDi, DataW.weights, Ybad.underlying29]
          simp [DataW.weightsEach, hx])
        simp at hz0 hb0
        refine ⟨(z0, q, b0), ?_, ?_, ?_, hq2, hq3⟩
        · rw [← hz0]; simpa using e0
        · rw [← hq1]; simpa using e1
        · rw [← hb0]; simpa using e2
    obtain ⟨q, hq⟩ := Go.Deep.choose_lt each
    refine ⟨fun i => (q i).1, fun i => (q i).2.1.1, fun i => (q i).2.1.2.1, fun i => (q i).2.1.2.2.1, fun i => (q i).2.1.2.2.2, fun i => (q i).2.2, ⟨fun h0 => ?_, fun j hj => (hq j hj).2.2.2.1⟩, fun j hj => (hq j hj).2.2.2.2, ?_⟩
    · obtain ⟨b, off, spot⟩ := a
      have hspot : spot = none := by simpa [Addr.add] using World.cell?_spot (hq 0 h0).1
      subst hspot
      refine ⟨b, off, rfl, fun j hj => ?_⟩
      obtain ⟨k0, k1, k2, _⟩ := hq j hj
      rw [add_plain] at k0 k1 k2
      exact ⟨k0, by rw [Nat.add_assoc]; exact k1, by rw [Nat.add_assoc]; exact k2⟩
    · unfold maxLen at hm
      omega
end Go.Proofs.YbulkegnmDoor
