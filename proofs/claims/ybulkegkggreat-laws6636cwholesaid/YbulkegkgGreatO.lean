import Derived.Test.YbulkegkgGreatF
namespace Go.Proofs.YbulkegkgGreat
open Go.RowKit Go.Sort Go.Shelf

/-- The cells of a row of keys. -/
def kF (ks : Nat → K) : Nat → Value := fun j => if j % 2 = 0 then .string (ks (j / 2)).1 else .string (ks (j / 2)).2
def encK (a : K) : List Value := [.string a.1, .string a.2]
theorem encK_at (a : K) (j : Nat) : (encK a)[j % 2]! = if j % 2 = 0 then .string a.1 else .string a.2 := by
  rcases Nat.mod_two_eq_zero_or_one j with h | h <;> rw [h] <;> rfl
theorem kF_even (ks : Nat → K) (i : Nat) : kF ks (i * 2) = .string (ks i).1 := by
  unfold kF
  rw [if_pos (by omega), show i * 2 / 2 = i by omega]
theorem kF_odd (ks : Nat → K) (i : Nat) : kF ks (i * 2 + 1) = .string (ks i).2 := by
  unfold kF
  rw [if_neg (by omega), show (i * 2 + 1) / 2 = i by omega]
theorem kF_congr {ks ks' : Nat → K} {n : Nat} (h : ∀ i, i < n → ks i = ks' i) : ∀ j, j < n * 2 → kF ks j = kF ks' j := by
  intro j hj
  unfold kF
  rw [h (j / 2) (by omega)]
theorem sortWorld_heap (w : World) (g m : Nat) (d : Array K) (os : Array Obj) : (sortWorldK encK 2 w g 0 m d os).heap = w.heap.modify g (onCells (putCells id 0 (flatK encK 2 d))) ++ os := rfl
theorem sortWorld_row {w : World} {g n m : Nat} {f : Nat → Value} {d : Array K} {os : Array Obj} (h : w.rowIs g 28 (n * 2) f) (hd : d.size = n) : (sortWorldK encK 2 w g 0 m d os).rowIs g 28 (n * 2) (kF fun i => d[i]!) := by
  have hl := h.lt
  obtain ⟨c, hb, hs, _⟩ := h
  refine ⟨putCells id 0 (flatK encK 2 d) c, ?_, by simp [putCells, hs], ?_⟩
  · rw [sortWorld_heap, Array.getElem?_append_left (by simpa using hl), Array.getElem?_modify, if_pos rfl, hb]
    rfl
  · intro j hj
    have hj2 : j < d.size * 2 := by omega
    simp only [putCells, Array.getElem?_mapIdx, size_flatK]
    rw [Array.getElem?_eq_getElem (by omega)]
    simp only [Option.map_some, Nat.zero_le, true_and, Nat.zero_add, hj2, if_true, Nat.sub_zero, id]
    rw [get_flatK encK 2 d j hj2, encK_at]
    rfl
theorem sortWorld_turn (w : World) (g m : Nat) (d : Array K) (os : Array Obj) : Turn (fun k => k = g) w (sortWorldK encK 2 w g 0 m d os) := by
  refine ⟨rfl, rfl, rfl, ?_, fun k hk ha => ?_⟩
  · rw [sortWorld_heap]
    simp
  · rw [sortWorld_heap, Array.getElem?_append_left (by simpa using hk), Array.getElem?_modify, if_neg (fun e => ha e.symm)]

set_option maxHeartbeats 1000000 in
theorem sort_any (g n cap : Nat) (ks : Nat → K) (w : World) (h : w.rowIs g 28 (n * 2) (kF ks)) (hn : n ≤ 100000) :
    Calls Ybaz.prog 5 #[.slice (some ⟨g, 0, none⟩) n cap, .func (.func 6) #[] #[]] w fun e w' => e = .returned (.tuple #[]) ∧ ∃ ks', w'.rowIs g 28 (n * 2) (kF ks') ∧ Turn (fun k => k = g) w w' ∧ Sorted n ks' ∧ ∀ t, t < n → ∃ s, s < n ∧ ks' t = ks s := by
  have hd : ((Array.range n).map ks).size = n := by simp
  have hget : ∀ i, i < n → ((Array.range n).map ks)[i]! = ks i := fun i hi => by simp [hi]
  have hH : HoldsK encK 2 w g 0 ((Array.range n).map ks) := by
    intro j hj
    rw [size_flatK, hd] at hj
    rw [Nat.zero_add, get_flatK encK 2 _ j (by rw [hd]; exact hj), encK_at, hget (j / 2) (by omega)]
    exact ⟨h.cell hj, h.frozen j⟩
  have eg : ∀ args w, (callFunc 6 args).run Ybaz.prog w = .ok (.enter 6 args) w := enters_of Ybaz.func6 (by kernel_rfl) rfl
  have hcmp : CmpLays Ybaz.prog 6 #[] encK 2 kcf g 0 ((Array.range n).map ks).size w := fun _ _ _ _ x y => (cmp_any x y _).mono fun _ _ ⟨he, os', hw⟩ => ⟨he, 0, os', hw⟩
  have hcon := AnyQ.slices_SortFunc Ybaz.sortK 2 (fun w => by kernel_rfl) (fun w => by kernel_rfl) encK (fun _ => rfl) (fun x v hv => by simp [encK] at hv; rcases hv with rfl | rfl <;> rfl) kcf swo 6 #[] g 0 cap ((Array.range n).map ks) w eg hcmp hH h.lt (by rw [hd]; omega)
  rw [hd] at hcon
  refine Calls.mono hcon ?_
  rintro e w' ⟨he, d', m, os, hp, hs, rfl⟩
  have hds : d'.size = n := hp.1.trans hd
  refine ⟨he, fun i => d'[i]!, sortWorld_row h hds, sortWorld_turn w g m d' os, ?_, ?_⟩
  · intro i j hij hj
    by_cases e : i = j
    · subst e; exact klt_irrefl _
    · have := hs i j (Nat.zero_le _) (by omega) hj
      rwa [lt_kcf] at this
  · intro t ht
    have hm : d'[t]! ∈ (d'.extract 0 n).toList := by
      rw [getElem!_pos d' t (by omega)]
      simp only [Array.toList_extract, List.extract_eq_take_drop, Nat.sub_zero, List.drop_zero]
      rw [List.take_of_length_le (by simp [hds])]
      exact Array.getElem_mem_toList _
    have := hp.2.2.mem_iff.1 hm
    simp only [Array.toList_extract, List.extract_eq_take_drop, Nat.sub_zero, List.drop_zero] at this
    have h2 := List.mem_of_mem_take this
    simp at h2
    obtain ⟨s, hs1, hs2⟩ := h2
    exact ⟨s, hs1, hs2.symm⟩
end Go.Proofs.YbulkegkgGreat
