import Derived.Test.YbulkegkgEsc
import Derived.Test.YbulkegkgCopy
import Derived.Deep.DeepCutAuto
import Derived.Deep.LoopGhost
import Derived.Deep.QuietTactic
import Derived.BigQuiet
import Derived.Maps.RangeWalk
import Derived.WalkSmall
namespace Go.Proofs.Ybulkegkg
open Go.RowKit

theorem info5 : (Yba.prog.info? 5).map (fun i => (i.zero, i.size, i.bytes)) = some (some (.int .u8 0), 1, 1) := by kernel_rfl
theorem size5 : (Yba.prog.info? 5).map (·.size) = some 1 := by kernel_rfl
/-- The test 'sel%3 == 1 && len(rest) > 0'. -/
def pickB (sel : Int) (n : Nat) : Bool := (sel % 3 == 1) && decide (0 < n)

theorem row_put {w : World} {g n : Nat} {z : Nat → Int} (h : w.rowIs g 5 n (fun j => .int .u8 (z j))) (i : Nat) (c : Int) : (w.setCell ⟨g, i, none⟩ (.int .u8 c)).rowIs g 5 n (fun j => .int .u8 (if j = i then c else z j)) :=
  (h.set i _).congr (fun j _ => by split <;> rfl)
theorem bnd_put {n : Nat} {z : Nat → Int} (h : ∀ j, j < n → 0 ≤ z j ∧ z j ≤ 255) (i : Nat) (c : Int) (h0 : 0 ≤ c) (h1 : c ≤ 255) : ∀ j, j < n → 0 ≤ (if j = i then c else z j) ∧ (if j = i then c else z j) ≤ 255 := by
  intro j hj
  split
  · exact ⟨h0, h1⟩
  · exact h j hj
theorem u8b (x : UInt8) : 0 ≤ (x.toNat : Int) ∧ (x.toNat : Int) ≤ 255 := by
  have := x.toNat_lt
  omega
theorem escL_sim {n : Nat} {z : Nat → Int} (hn : 0 < n) (h : simB (z 0) = true) : escL n z = 1 := by
  unfold escL; rw [if_neg (by omega), if_pos h]
theorem escL_no {n : Nat} {z : Nat → Int} (h : simB (z 0) = false) (h2 : ¬ (z 0 = 117 ∧ 5 ≤ n ∧ hexB (z 1) = true ∧ hexB (z 2) = true ∧ hexB (z 3) = true ∧ hexB (z 4) = true)) : escL n z = 0 := by
  have hs : ¬ simB (z 0) = true := by rw [h]; decide
  have e : (if z 0 = 117 ∧ 5 ≤ n ∧ hexB (z 1) = true ∧ hexB (z 2) = true ∧ hexB (z 3) = true ∧ hexB (z 4) = true then (5 : Int) else 0) = 0 := if_neg h2
  unfold escL
  rw [e, if_neg hs]
  exact ite_self _
theorem escL_five {n : Nat} {z : Nat → Int} (h0 : z 0 = 117) (hn : 5 ≤ n) (h1 : hexB (z 1) = true) (h2 : hexB (z 2) = true) (h3 : hexB (z 3) = true) (h4 : hexB (z 4) = true) : escL n z = 5 := by
  have hs : ¬ simB (z 0) = true := by rw [h0]; decide
  unfold escL; rw [if_neg (by omega), if_neg hs, if_pos ⟨h0, hn, h1, h2, h3, h4⟩]
theorem val_eq {a b : Int} (h : a = b) : Value.int .i64 a = .int .i64 b := by rw [h]
theorem esc_any (g n : Nat) (z : Nat → Int) (w : World) (hm : n ≤ 1048576) (hc : ∀ j, j < n → w.cell? ⟨g, j, none⟩ = some (.int .u8 (z j))) :
    Calls Yba.prog 4 #[.slice (some ⟨g, 0, none⟩) n n] w fun e w' => e = .returned (.int .i64 (escL n z)) ∧ w' = w := by
  by_cases h0 : n = 0
  · subst h0
    exact esc_none _ _ _
  · exact esc_some g n z w (by omega) hm hc

set_option maxHeartbeats 4000000 in
set_option maxRecDepth 100000 in
theorem law_walk (a0 : Option Addr) (n cap0 : Nat) (z : Nat → Int) (sel : Int) (w : World) (hn : n ≤ 1048576) (hs0 : 0 ≤ sel) (hs1 : sel ≤ 255)
    (hz : ∀ j, j < n → 0 ≤ z j ∧ z j ≤ 255)
    (hc : 0 < n → ∃ b off, a0 = some ⟨b, off, none⟩ ∧ b < w.heap.size ∧ ∀ j, j < n → w.cell? ⟨b, off + j, none⟩ = some (.int .u8 (z j))) :
    Calls Yba.prog 3 #[.slice a0 n cap0, .int .u8 sel] w fun e w' => e = .returned (.bool true) ∧ Below w.heap.size w w' := by
  have hmk := run_make_row' (P := Yba.prog) 22 5 (.int .u8 0) 1 Yba.underlying22 info5 rfl .i64 .i64 n (by omega) (by omega)
  have hb0 : Below w.heap.size w (w.alloc (.cells (madeCells #[.int .u8 0] n) 5)) := (Below.refl _ _).alloc (Nat.le_refl _) _
  have HC : Hid (0 < n → ∃ ad, a0 = some ad ∧ ∀ j, j < n → (w.alloc (.cells (madeCells #[.int .u8 0] n) 5)).cell? (ad.add j) = some (.int .u8 (z j))) := by
    intro h0
    obtain ⟨b, off, h1, h2, h3⟩ := hc h0
    exact ⟨_, h1, fun j hj => by rw [WideShapes.add_plain]; exact (hb0.cell (p := ⟨b, off + j, none⟩) (by exact h2)).trans (h3 j hj)⟩
  have HZ : Hid (∀ j, j < n → 0 ≤ z j ∧ z j ≤ 255) := hz
  have Hb0 : Hid (Below w.heap.size w (w.alloc (.cells (madeCells #[.int .u8 0] n) 5))) := hb0
  clear hc hz hb0
  have Hrow : Hid _ := World.rowIs_made w (.int .u8 0) n 5
  go_enter Yba.func3, Yba.ntmps3
  go_upto_region 5 with (refine wpList_copy_rows rfl (.tmp 17) (.tmp 18) 22 22 rfl 5 Yba.underlying22 size5 w.heap.size n n a0 cap0 rfl rfl 5 _ (fun j => .int .u8 (z j)) Hrow.out HC.out (fun _ _ => rfl) w.heap.size w Hb0.out (Nat.le_refl _) ?_; intro w1 hr1 hb1)
  clear HC Hb0 Hrow
  go_frame
  go_cut [27] (fun s27 wx => s27 = .bool (pickB sel n) ∧ wx = w1)
  case first =>
    by_cases h1 : sel % 3 = 1
    · have h1' : (sel % 3 == 1) = true := by simpa using h1
      go_wp2
      go_meet
      case rel => exact ⟨by simp [pickB, h1], rfl⟩
    · have h1' : (sel % 3 == 1) = false := by simpa using h1
      go_wp2
      go_meet
      case rel => exact ⟨by simp [pickB, h1], rfl⟩
  case rest =>
    obtain ⟨rfl, rfl⟩ := hcut
    have hpos : pickB sel n = true → 0 < n := by unfold pickB; simp
    generalize pickB sel n = cB at hpos ⊢
    go_upto_if 27 with fail
    go_cut [] (fun wx => ∃ z' : Nat → Int, Hid (∀ j, j < n → 0 ≤ z' j ∧ z' j ≤ 255) ∧ Hid (wx.rowIs w.heap.size 5 n (fun j => .int .u8 (z' j))) ∧ Below w.heap.size w wx)
    case first =>
      cases cB
      · go_wp2
        go_meet
        case rel => exact ⟨z, HZ, hr1, hb1⟩
      · have hn0 := hpos rfl
        have hc0 := hr1.out.cell hn0
        have hf0 := hr1.out.frozen 0
        go_wp2
        go_loopg [6] 4 (fun gk i wr => ∃ m : Nat, 1 ≤ m ∧ m ≤ 5 ∧ gk = 5 - m ∧ i = .int .i64 m ∧ ∃ z' : Nat → Int, Hid (∀ j, j < n → 0 ≤ z' j ∧ z' j ≤ 255) ∧ Hid (wr.rowIs w.heap.size 5 n (fun j => .int .u8 (z' j))) ∧ Below w.heap.size w wr)
        case atStart => exact ⟨1, by omega, by omega, by omega, rfl, _, bnd_put HZ.out 0 117 (by omega) (by omega), row_put hr1.out 0 117, hb1.setCell (Nat.le_refl _) _⟩
        case round =>
          obtain ⟨m, hm1, hm5, hgk, rfl, z', HZ', HR', hbr⟩ := hrel
          by_cases hmn : m < n
          · by_cases hm4 : m < 5
            · have hcm := HR'.out.cell hmn
              have hfm := HR'.out.frozen m
              have hzm := HZ'.out m hmn
              go_wp2
              go_roundg (4 - m)
              case measure => omega
              case rel => exact ⟨m + 1, by omega, by omega, by omega, by go_num, _, bnd_put HZ'.out m _ (u8b _).1 (u8b _).2, row_put HR'.out m _, hbr.setCell (Nat.le_refl _) _⟩
            · go_wp2
              go_meet
              case rel => exact ⟨z', HZ', HR', hbr⟩
          · go_wp2
            go_meet
            case rel => exact ⟨z', HZ', HR', hbr⟩
    case rest =>
      obtain ⟨wo, rfl⟩ : ∃ wo : World, wo = wc := ⟨_, rfl⟩
      obtain ⟨z', HZ', HR', hbr⟩ := hcut
      clear hr1 hb1 HZ
      have hlt := HR'.out.lt
      have Hrow2 : Hid _ := World.rowIs_made wo (.int .u8 0) n 5
      have Hb2 : Hid (Below wo.heap.size wo (wo.alloc (.cells (madeCells #[.int .u8 0] n) 5))) := (Below.refl _ _).alloc (Nat.le_refl _) _
      have HC2 : Hid (0 < n → ∃ ad, (some ⟨w.heap.size, 0, none⟩ : Option Addr) = some ad ∧ ∀ j, j < n → (wo.alloc (.cells (madeCells #[.int .u8 0] n) 5)).cell? (ad.add j) = some (.int .u8 (z' j))) := by
        intro h0
        refine ⟨_, rfl, fun j hj => ?_⟩
        rw [WideShapes.add_plain, Nat.zero_add]
        exact (Hb2.out.cell (p := ⟨w.heap.size, j, none⟩) hlt).trans (HR'.out.cell hj)
      go_wp2_with (refine wpList_copy_rows rfl (.tmp 53) (.tmp 54) 22 22 rfl 5 Yba.underlying22 size5 wo.heap.size n n (some ⟨w.heap.size, 0, none⟩) n rfl rfl 5 _ (fun j => .int .u8 (z' j)) Hrow2.out HC2.out (fun _ _ => rfl) wo.heap.size wo Hb2.out (Nat.le_refl _) ?_; intro w3 hr3 hb3)
      have hr2 : w3.rowIs w.heap.size 5 n (fun j => .int .u8 (z' j)) := HR'.out.of_block (hb3.block _ hlt)
      have HR2 : Hid (w3.rowIs w.heap.size 5 n (fun j => .int .u8 (z' j))) := hr2
      have hB3 : Below w.heap.size w w3 := hbr.trans (hb3.mono (by omega))
      clear HC2 Hrow2 Hb2 hb3 hbr HR' hr2
      refine (esc_any w.heap.size n z' w3 hn (fun j hj => HR2.out.cell hj)).mono ?_
      rintro e w4 ⟨rfl, hw4⟩
      subst hw4
      go_upto_if 60 with fail
      go_cut [9] (fun s9 wx => s9 = .int .i64 (escL n z') ∧ wx = w4)
      case first =>
        by_cases h0 : n = 0
        · have He : Hid (escL n z' = 0) := by subst h0; rfl
          subst h0
          go_wp2
          go_meet
          case rel => exact ⟨val_eq He.out.symm, rfl⟩
        · have hc0 := hr3.out.cell (show 0 < n by omega)
          obtain ⟨c0, hc0z⟩ : ∃ c0, c0 = z' 0 := ⟨_, rfl⟩
          simp only [← hc0z] at hc0
          have HZ0 : Hid (c0 = z' 0) := hc0z
          clear hc0z
          have hn0 : 0 < n := by omega
          cases hs : simB c0
          · by_cases h117 : c0 = 117
            · by_cases h5 : 5 ≤ n
              · have hc1 := hr3.out.cell (show 1 < n by omega)
                have hc2 := hr3.out.cell (show 2 < n by omega)
                have hc3 := hr3.out.cell (show 3 < n by omega)
                have hc4 := hr3.out.cell (show 4 < n by omega)
                have HS : Hid (simB (z' 0) = false) := by rw [← HZ0.out]; exact hs
                have H0 : Hid (z' 0 = 117) := by rw [← HZ0.out]; exact h117
                clear HZ0
                obtain ⟨c1, hc1z⟩ : ∃ c, c = z' 1 := ⟨_, rfl⟩
                obtain ⟨c2, hc2z⟩ : ∃ c, c = z' 2 := ⟨_, rfl⟩
                obtain ⟨c3, hc3z⟩ : ∃ c, c = z' 3 := ⟨_, rfl⟩
                obtain ⟨c4, hc4z⟩ : ∃ c, c = z' 4 := ⟨_, rfl⟩
                simp only [← hc1z] at hc1
                simp only [← hc2z] at hc2
                simp only [← hc3z] at hc3
                simp only [← hc4z] at hc4
                have HE : Hid (c1 = z' 1 ∧ c2 = z' 2 ∧ c3 = z' 3 ∧ c4 = z' 4) := ⟨hc1z, hc2z, hc3z, hc4z⟩
                clear hc1z hc2z hc3z hc4z
                subst h117
                cases h1 : hexB c1
                · go_wp2_with (first | (go_at_call 5; refine (sim_any _ _).mono ?_; rintro e w' ⟨rfl, hw⟩; subst hw) | (go_at_call 6; refine (hex_any _ _).mono ?_; rintro e w' ⟨rfl, hw⟩; subst hw))
                  go_meet
                  case rel => exact ⟨val_eq (escL_no HS.out (by rw [← HE.out.1, h1]; simp)).symm, rfl⟩
                · cases h2 : hexB c2
                  · go_wp2_with (first | (go_at_call 5; refine (sim_any _ _).mono ?_; rintro e w' ⟨rfl, hw⟩; subst hw) | (go_at_call 6; refine (hex_any _ _).mono ?_; rintro e w' ⟨rfl, hw⟩; subst hw))
                    go_meet
                    case rel => exact ⟨val_eq (escL_no HS.out (by rw [← HE.out.2.1, h2]; simp)).symm, rfl⟩
                  · cases h3 : hexB c3
                    · go_wp2_with (first | (go_at_call 5; refine (sim_any _ _).mono ?_; rintro e w' ⟨rfl, hw⟩; subst hw) | (go_at_call 6; refine (hex_any _ _).mono ?_; rintro e w' ⟨rfl, hw⟩; subst hw))
                      go_meet
                      case rel => exact ⟨val_eq (escL_no HS.out (by rw [← HE.out.2.2.1, h3]; simp)).symm, rfl⟩
                    · cases h4 : hexB c4
                      · go_wp2_with (first | (go_at_call 5; refine (sim_any _ _).mono ?_; rintro e w' ⟨rfl, hw⟩; subst hw) | (go_at_call 6; refine (hex_any _ _).mono ?_; rintro e w' ⟨rfl, hw⟩; subst hw))
                        go_meet
                        case rel => exact ⟨val_eq (escL_no HS.out (by rw [← HE.out.2.2.2, h4]; simp)).symm, rfl⟩
                      · go_wp2_with (first | (go_at_call 5; refine (sim_any _ _).mono ?_; rintro e w' ⟨rfl, hw⟩; subst hw) | (go_at_call 6; refine (hex_any _ _).mono ?_; rintro e w' ⟨rfl, hw⟩; subst hw))
                        go_meet
                        case rel => exact ⟨val_eq (escL_five H0.out h5 (by rw [← HE.out.1]; exact h1) (by rw [← HE.out.2.1]; exact h2) (by rw [← HE.out.2.2.1]; exact h3) (by rw [← HE.out.2.2.2]; exact h4)).symm, rfl⟩
              · have He : Hid (escL n z' = 0) := escL_no (by rw [← HZ0.out]; exact hs) (by omega)
                have hd : decide ((5 : Int) ≤ (n : Int)) = false := by simp; omega
                clear HZ0
                subst h117
                go_wp2_with (first | (go_at_call 5; refine (sim_any _ _).mono ?_; rintro e w' ⟨rfl, hw⟩; subst hw) | (go_at_call 6; refine (hex_any _ _).mono ?_; rintro e w' ⟨rfl, hw⟩; subst hw))
                go_meet
                case rel => exact ⟨val_eq He.out.symm, rfl⟩
            · have He : Hid (escL n z' = 0) := escL_no (by rw [← HZ0.out]; exact hs) (by rw [← HZ0.out]; omega)
              have hb117 : (c0 == 117) = false := by simpa using h117
              clear HZ0
              go_wp2_with (first | (go_at_call 5; refine (sim_any _ _).mono ?_; rintro e w' ⟨rfl, hw⟩; subst hw) | (go_at_call 6; refine (hex_any _ _).mono ?_; rintro e w' ⟨rfl, hw⟩; subst hw))
              go_meet
              case rel => exact ⟨val_eq He.out.symm, rfl⟩
          · have He : Hid (escL n z' = 1) := escL_sim hn0 (by rw [← HZ0.out]; exact hs)
            clear HZ0
            go_wp2_with (first | (go_at_call 5; refine (sim_any _ _).mono ?_; rintro e w' ⟨rfl, hw⟩; subst hw) | (go_at_call 6; refine (hex_any _ _).mono ?_; rintro e w' ⟨rfl, hw⟩; subst hw))
            go_meet
            case rel => exact ⟨val_eq He.out.symm, rfl⟩
      case rest =>
        obtain ⟨rfl, hwc⟩ := hcut
        subst hwc
        go_wp2
        go_loopg [10] n (fun gk i wr => ∃ m : Nat, m ≤ n ∧ gk = n - m ∧ i = .int .i64 m ∧ Hid (wr.rowIs w.heap.size 5 n (fun j => .int .u8 (z' j))) ∧ Hid (wr.rowIs wo.heap.size 5 n (fun j => .int .u8 (z' j))) ∧ Below w.heap.size w wr)
        case atStart => exact ⟨0, by omega, by omega, rfl, HR2, hr3, hB3⟩
        case round =>
          obtain ⟨m, hmn, hgk, rfl, HA, HB, hbw⟩ := hrel
          by_cases hlt2 : m < n
          · have ha := HA.out.cell hlt2
            have hb := HB.out.cell hlt2
            have i0 : (0 : Int) ≤ (m : Int) := by omega
            have i1 : (m : Int) < (n : Int) := by omega
            go_wp2
            go_quiet (fail)
            go_wp2
            go_roundg (n - (m + 1))
            case measure => omega
            case rel => exact ⟨m + 1, by omega, rfl, by go_num, HA, HB, below_drewN hbw _⟩
          · go_wp2
            go_ret
            exact ⟨rfl, hbw⟩
end Go.Proofs.Ybulkegkg
