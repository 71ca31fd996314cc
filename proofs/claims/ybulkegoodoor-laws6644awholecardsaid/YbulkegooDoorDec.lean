import Derived.Test.YbulkegooDoorInt
import Derived.Test.YbulkegooDoorAid
import Derived.Laws.IdiomStrings
import Derived.WalkLawsBesides
import Derived.Deep.CutRange
namespace Go.Proofs.YbulkegooDoor
open Go.RowKit Go.Lib

def dec (u : Nat) : ByteArray := ⟨(Lib.decDigits u).toArray⟩
def hd0 (v : Nat) : List UInt8 := if v = 0 then [] else Lib.decDigits v
theorem hd0_step {v : Nat} (hv : 0 < v) : hd0 v = hd0 (v / 10) ++ [UInt8.ofNat (48 + v % 10)] := by
  unfold hd0
  rw [if_neg (by omega)]
  by_cases h : v < 10
  · rw [if_pos (by omega), Lib.decDigits_one h, Nat.mod_eq_of_lt h]; rfl
  · rw [if_neg (by omega), Lib.decDigits, dif_neg h]
def pad (l : List UInt8) : List UInt8 := List.replicate (24 - l.length) 0 ++ l
def padV (l : List UInt8) : Nat → Value := fun j => .int .u8 ((pad l).getD j 0).toNat
theorem pad_step (l : List UInt8) (d : UInt8) (k : Nat) (hk : k + 1 + l.length = 24) : ∀ j, j < 24 → padV (d :: l) j = if j = k then .int .u8 d.toNat else padV l j := by
  intro j hj
  have e1 : pad (d :: l) = List.replicate k 0 ++ d :: l := by unfold pad; rw [List.length_cons, show 24 - (l.length + 1) = k by omega]
  have e2 : pad l = List.replicate (k + 1) 0 ++ l := by unfold pad; rw [show 24 - l.length = k + 1 by omega]
  unfold padV
  rw [e1, e2, List.getD_eq_getElem?_getD, List.getD_eq_getElem?_getD]
  by_cases h : j = k
  · subst h
    simp
  · rw [if_neg h]
    by_cases hl : j < k
    · rw [List.getElem?_append_left (by simpa using hl), List.getElem?_append_left (by simp; omega)]
      simp [hl, show j < k + 1 by omega]
    · rw [List.getElem?_append_right (by simp; omega), List.getElem?_append_right (by simp; omega)]
      simp only [List.length_replicate]
      obtain ⟨q, rfl⟩ : ∃ q, j = k + 1 + q := ⟨j - (k + 1), by omega⟩
      rw [show k + 1 + q - k = q + 1 by omega, show k + 1 + q - (k + 1) = q by omega, List.getElem?_cons_succ]
theorem pad_read (l : List UInt8) (k : Nat) (hk : k + l.length = 24) (j : Nat) (hj : j < l.length) : padV l (k + j) = .int .u8 (l[j].toNat : Int) := by
  unfold padV pad
  rw [List.getD_eq_getElem?_getD, show 24 - l.length = k by omega, List.getElem?_append_right (by simp), List.length_replicate, Nat.add_sub_cancel_left, List.getElem?_eq_getElem hj]
  rfl
theorem dig_toNat (v : Nat) : ((UInt8.ofNat (48 + v % 10)).toNat : Int) = 48 + (v : Int) % 10 := by
  rw [UInt8.toNat_ofNat']
  omega

set_option maxHeartbeats 1600000 in
set_option maxRecDepth 100000 in
theorem adec0 (w : World) : Calls Ybad.prog 5 #[.int .i64 0] w fun e w' => e = .returned (.string (dec 0)) ∧ w' = w := by
  go_enter Ybad.func5, Ybad.ntmps5
  go_wp2
  go_ret
  exact ⟨by rw [dec, Lib.decDigits_one (by omega)]; rfl, rfl⟩

set_option maxHeartbeats 1600000 in
set_option maxRecDepth 100000 in
theorem adec (u : Nat) (hu0 : 0 < u) (hu : u ≤ 9223372036854775807) (w : World) :
    Calls Ybad.prog 5 #[.int .i64 u] w fun e w' => e = .returned (.string (dec u)) ∧ Below w.heap.size w w' := by
  have hd : decide ((u : Int) ≤ 0) = false := by simp; omega
  have hdl : (Lib.decDigits u).length ≤ 20 := by
    rw [Lib.decDigits_length]
    have := Lib.numDigits_eq u hu0 (by omega); split at this <;> omega
  go_enter Ybad.func5, Ybad.ntmps5
  go_upto_block 0 with fail
  have r1 : (w.alloc (.cells #[.int .u8 0, .int .u8 0, .int .u8 0, .int .u8 0, .int .u8 0, .int .u8 0, .int .u8 0, .int .u8 0, .int .u8 0, .int .u8 0, .int .u8 0, .int .u8 0, .int .u8 0, .int .u8 0, .int .u8 0, .int .u8 0, .int .u8 0, .int .u8 0, .int .u8 0, .int .u8 0, .int .u8 0, .int .u8 0, .int .u8 0, .int .u8 0] 35)).rowIs w.heap.size 35 24 (padV []) := row_of_block (heap_alloc_new w _) _ (fun i hi => by
    have hi' : i < 24 := by simpa using hi
    unfold padV pad
    rw [List.getD_eq_getElem?_getD]
    simp [hi']
    match i, hi' with
    | 0, _ | 1, _ | 2, _ | 3, _ | 4, _ | 5, _ | 6, _ | 7, _ | 8, _ | 9, _ | 10, _ | 11, _ | 12, _ | 13, _ | 14, _ | 15, _ | 16, _ | 17, _ | 18, _ | 19, _ | 20, _ | 21, _ | 22, _ | 23, _ => rfl
    | n + 24, h => exact absurd h (by omega))
  have t1 : Turn (fun _ => False) w (w.alloc (.cells #[.int .u8 0, .int .u8 0, .int .u8 0, .int .u8 0, .int .u8 0, .int .u8 0, .int .u8 0, .int .u8 0, .int .u8 0, .int .u8 0, .int .u8 0, .int .u8 0, .int .u8 0, .int .u8 0, .int .u8 0, .int .u8 0, .int .u8 0, .int .u8 0, .int .u8 0, .int .u8 0, .int .u8 0, .int .u8 0, .int .u8 0, .int .u8 0] 35)) := (Turn.refl _ _).alloc _
  generalize w.alloc (.cells #[.int .u8 0, .int .u8 0, .int .u8 0, .int .u8 0, .int .u8 0, .int .u8 0, .int .u8 0, .int .u8 0, .int .u8 0, .int .u8 0, .int .u8 0, .int .u8 0, .int .u8 0, .int .u8 0, .int .u8 0, .int .u8 0, .int .u8 0, .int .u8 0, .int .u8 0, .int .u8 0, .int .u8 0, .int .u8 0, .int .u8 0, .int .u8 0] 35) = w1 at r1 t1 ⊢
  have R1 : Hid (w1.rowIs w.heap.size 35 24 (padV [])) := r1
  clear r1
  go_wp2_with fail
  go_loopg [4, 5] u (fun gk s4 s5 wr => ∃ (v k : Nat) (l : List UInt8), gk = v ∧ v ≤ u ∧ k + l.length = 24 ∧ s4 = .int .i64 k ∧ s5 = .int .u64 v ∧ Hid (Lib.decDigits u = hd0 v ++ l) ∧ Hid (wr.rowIs w.heap.size 35 24 (padV l)) ∧ Turn (fun _ => False) w wr)
  case atStart => exact ⟨u, 24, [], rfl, Nat.le_refl _, rfl, rfl, rfl, (show Lib.decDigits u = hd0 u ++ [] by unfold hd0; rw [if_neg (by omega)]; simp), R1, t1⟩
  case round =>
    obtain ⟨v, k, l, hgv, hvu, hkl, rfl, rfl, HD, HR, hT⟩ := hrel
    by_cases hv : 0 < v
    · obtain ⟨k, rfl⟩ : ∃ k', k = k' + 1 := by
        have e := congrArg List.length HD.out
        rw [List.length_append] at e
        exact ⟨k - 1, by omega⟩
      have hdv : decide ((0 : Int) < (v : Int)) = true := by simp; omega
      have lA := HR.out.lt
      have x1 : wr.cell? ⟨w.heap.size, k, none⟩ = some (padV l k) := HR.out.cell (by omega)
      have x2 : wr.frozen? ⟨w.heap.size, k, none⟩ = false := HR.out.frozen k
      have i0 : (0 : Int) ≤ (k : Int) := by omega
      have i1 : (k : Int) < 24 := by omega
      go_wp2
      go_roundg (v / 10)
      case measure => omega
      case rel =>
        refine ⟨v / 10, k, UInt8.ofNat (48 + v % 10) :: l, rfl, by omega, by simp; omega, by go_num, by go_num, (show Lib.decDigits u = hd0 (v / 10) ++ (UInt8.ofNat (48 + v % 10) :: l) by rw [HD.out, hd0_step hv]; simp), ?_, ?_⟩
        · exact row_put HR.out k _ _ (fun j hj => by rw [pad_step l _ k (by omega) j hj, dig_toNat])
        · exact hT.setCell (p := ⟨w.heap.size, k, none⟩) (.inl (Nat.le_refl _)) _
    · obtain rfl : v = 0 := by omega
      have hl0 : 0 < l.length := by
        have e := congrArg List.length HD.out
        rw [List.length_append, Lib.decDigits_length] at e
        have : 0 < Lib.nDigits u := by
          by_cases h10 : u < 10
          · rw [Lib.nDigits_small h10]; omega
          · rw [Lib.nDigits_big h10]; omega
        have e0 : (hd0 0).length = 0 := rfl
        omega
      have hal : Ybad.prog.arrayLen 35 = 24 := by simp [Program.arrayLen, Ybad.underlying35]
      have hsl : ∀ W, (Instr.sliceAt 35 (.pointer (some ⟨w.heap.size, 0, none⟩)) (some (.int .i64 (k : Int))) none none).run Ybad.prog W = .ok (.slice (some ⟨w.heap.size, k, none⟩) l.length l.length) W := fun W => by
        rw [run_sliceAt_array_l W 35 ⟨w.heap.size, 0, none⟩ (by simp [Program.arrayLen, Program.elem, Ybad.underlying35]) .i64 (k : Int) (by omega) (by rw [hal]; omega)]
        have e2 : 24 - k = l.length := by omega
        go_simp
        omega
      have hcv := run_convert_bytes_back (P := Ybad.prog) wr 37 9 5 ⟨w.heap.size, k, none⟩ l.length l Ybad.underlying37 Ybad.underlying5 Ybad.underlying9 (fun j hj => by rw [Lib.add_plain, HR.out.cell (show k + j < 24 by omega), pad_read l k hkl j hj])
      clear hal
      go_wp2
      go_ret
      exact ⟨by rw [dec, HD.out]; rfl, hT.below (Nat.le_refl _) (fun _ h => h.elim)⟩
end Go.Proofs.YbulkegooDoor
