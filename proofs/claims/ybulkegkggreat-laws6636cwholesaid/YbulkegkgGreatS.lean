import Derived.Test.YbulkegkgGreatB
import Derived.Deep.RegionHeld3
namespace Go.Proofs.YbulkegkgGreat
open Go.RowKit

theorem dec_kcmp (a b : K) : decide (kcmp a b < 0) = klt a b := by
  cases h : klt a b with
  | true => exact decide_eq_true ((kcmp_neg a b).2 h)
  | false => exact decide_eq_false (fun e => by rw [(kcmp_neg a b).1 e] at h; cases h)
set_option maxHeartbeats 4000000 in
set_option maxRecDepth 100000 in
/-- slices.BinarySearchFunc over the chunks: the first place whose key is not before q. -/
theorem bs28 (g n cap : Nat) (p : Nat → Nat) (ky : Nat → K) (q : K) (w : World) (hn : n ≤ 1000000) (hs : SlI w 58 g n cap (fun j => .pointer (some ⟨p j, 0, none⟩)))
    (h0 : ∀ j, j < n → w.cell? ⟨p j, 2, none⟩ = some (.string (ky j).1)) (h1 : ∀ j, j < n → w.cell? ⟨p j, 3, none⟩ = some (.string (ky j).2))
    (mono : ∀ i j, i ≤ j → j < n → klt (ky j) q = true → klt (ky i) q = true) :
    Calls Ybaz.prog 28 #[.slice (some ⟨g, 0, none⟩) n cap, kv q, .func (.func 29) #[] #[]] w fun e w' => ∃ (i : Nat) (f : Bool), e = .returned (.tuple #[.int .i64 i, .bool f]) ∧ Turn (fun _ => False) w w' ∧ i ≤ n ∧ (∀ j, j < i → klt (ky j) q = true) ∧ (∀ j, i ≤ j → j < n → klt (ky j) q = false) := by
  have hcl := fun j (hj : j < n) W (t : Turn (fun _ => False) w W) => cl29 (p j) (ky j) q W (t.cell (h0 j hj) (fun x => x)) (t.cell (h1 j hj) (fun x => x))
  have HC : Hid (∀ j (hj : j < n) W (t : Turn (fun _ => False) w W), Calls Ybaz.prog 29 #[.pointer (some ⟨p j, 0, none⟩), kv q] W fun e w' => e = .returned (.int .i64 (kcmp (ky j) q)) ∧ Turn (fun _ => False) W w') := hcl
  have HS : Hid (SlI w 58 g n cap (fun j => .pointer (some ⟨p j, 0, none⟩))) := hs
  have HM : Hid (∀ i j, i ≤ j → j < n → klt (ky j) q = true → klt (ky i) q = true) := mono
  clear hcl hs h0 h1 mono
  obtain ⟨q1, q2⟩ := q
  have hkv : Hid (kv (q1, q2) = .agg #[.string q1, .string q2]) := rfl
  rw [hkv.out]
  go_enter Ybaz.func28, Ybaz.ntmps28
  go_upto_block 0 with fail
  have t1 : Turn (fun _ => False) w (w.alloc (.cells #[.string q1, .string q2] 28)) := (Turn.refl _ _).alloc _
  have Z : Hid ((w.alloc (.cells #[.string q1, .string q2] 28)).heap[w.heap.size]? = some (.cells #[.string q1, .string q2] 28)) := heap_alloc_new w _
  have lz : w.heap.size < (w.alloc (.cells #[.string q1, .string q2] 28)).heap.size := by simp
  generalize w.alloc (.cells #[.string q1, .string q2] 28) = w1 at t1 Z lz ⊢
  have HT : Hid (Turn (fun _ => False) w w1) := t1
  clear t1
  go_wp2_with fail
  go_loopg [9, 10] n (fun gk s9 s10 wr => ∃ i j : Nat, i ≤ j ∧ j ≤ n ∧ gk = j - i ∧ s9 = .int .i64 i ∧ s10 = .int .i64 j ∧ Hid (Turn (fun _ => False) w1 wr) ∧ Hid (∀ k, k < i → klt (ky k) (q1, q2) = true) ∧ Hid (∀ k, j ≤ k → k < n → klt (ky k) (q1, q2) = false))
  case atStart => exact ⟨0, n, by omega, by omega, by omega, rfl, rfl, Turn.refl _ _, fun k hk => absurd hk (by omega), fun k h1 h2 => absurd h2 (by omega)⟩
  case round =>
    obtain ⟨i, j, hij, hjn, hgk, rfl, rfl, HW, HL, HR⟩ := hrel
    by_cases hlt : i < j
    · have hd : decide ((i : Int) < (j : Int)) = true := by simp; omega
      go_upto_region 5 with fail
      have hm : ((i : Int) + (j : Int)) / 2 = (((i + j) / 2 : Nat) : Int) := by omega
      obtain ⟨m, em⟩ : ∃ m : Nat, m = (i + j) / 2 := ⟨_, rfl⟩
      rw [hm, ← em]
      have m0 : i ≤ m := by omega
      have m1 : m < j := by omega
      have hmn : m < n := by omega
      clear hm em
      go_cut [31] from 24 to 31 (fun s31 wx => s31 = .bool (klt (ky m) (q1, q2)) ∧ Hid (Turn (fun _ => False) w1 wx))
      case first =>
        have T0 : Turn (fun _ => False) w wr := HT.out.trans HW.out (fun _ _ x => x)
        have c1 : wr.cell? ⟨g, m, none⟩ = some (.pointer (some ⟨p m, 0, none⟩)) := (HS.out.turn T0 (fun x => x)).cell hmn
        have Z2 : wr.heap[w.heap.size]? = some (.cells #[.string q1, .string q2] 28) := (HW.out.block _ lz (fun x => x)).trans Z.out
        have z0 : wr.cell? ⟨w.heap.size, 0, none⟩ = some (.string q1) := by rw [cell_of_row _ _ _ _ _ _ Z2]; rfl
        have z1 : wr.cell? ⟨w.heap.size, 1, none⟩ = some (.string q2) := by rw [cell_of_row _ _ _ _ _ _ Z2]; rfl
        have i0 : (0 : Int) ≤ (m : Int) := by omega
        have i1 : (m : Int) < (n : Int) := by omega
        have hdk : Hid (decide (kcmp (ky m) (q1, q2) < 0) = klt (ky m) (q1, q2)) := dec_kcmp _ _
        clear Z2 hd
        go_region_with (go_at_call 29; refine (HC.out m hmn _ ?ht).mono ?_; (case ht => first | exact T0 | exact T0.drew | exact T0.drew.drew | exact T0.drew.drew.drew); rintro e w' ⟨rfl, t2⟩)
        all_goals (go_wp2; go_meet)
        all_goals exact ⟨by rw [hdk.out], HW.out.drew.trans t2 (fun _ _ x => x)⟩
      case rest =>
        obtain ⟨rfl, HW2⟩ := hcut
        obtain ⟨wa, rfl⟩ : ∃ wa : World, wa = wc := ⟨_, rfl⟩
        cases hk : klt (ky m) (q1, q2) with
        | true =>
          go_wp2
          go_roundg (j - (m + 1))
          case measure => omega
          case rel => exact ⟨m + 1, j, by omega, hjn, rfl, by go_num, rfl, HW2, fun k hkm => HM.out k m (by omega) hmn hk, HR⟩
        | false =>
          go_wp2
          go_roundg (m - i)
          case measure => omega
          case rel => exact ⟨i, m, by omega, by omega, rfl, rfl, rfl, HW2, HL, fun k h1 h2 => by
            cases hk2 : klt (ky k) (q1, q2) with
            | false => rfl
            | true => rw [HM.out m k h1 h2 hk2] at hk; cases hk⟩
    · obtain rfl : i = j := by omega
      go_upto_region 8 with fail
      by_cases hin : i < n
      · have hd : decide ((i : Int) < (n : Int)) = true := by simp; omega
        have T0 : Turn (fun _ => False) w wr := HT.out.trans HW.out (fun _ _ x => x)
        have c1 : wr.cell? ⟨g, i, none⟩ = some (.pointer (some ⟨p i, 0, none⟩)) := (HS.out.turn T0 (fun x => x)).cell hin
        have Z2 : wr.heap[w.heap.size]? = some (.cells #[.string q1, .string q2] 28) := (HW.out.block _ lz (fun x => x)).trans Z.out
        have z0 : wr.cell? ⟨w.heap.size, 0, none⟩ = some (.string q1) := by rw [cell_of_row _ _ _ _ _ _ Z2]; rfl
        have z1 : wr.cell? ⟨w.heap.size, 1, none⟩ = some (.string q2) := by rw [cell_of_row _ _ _ _ _ _ Z2]; rfl
        have i0 : (0 : Int) ≤ (i : Int) := by omega
        have i1 : (i : Int) < (n : Int) := by omega
        clear Z2
        go_region_held3 (fun w' => Turn (fun _ => False) wr w' ∧ w'.cell? ⟨g, i, none⟩ = some (.pointer (some ⟨p i, 0, none⟩)) ∧ w'.cell? ⟨w.heap.size, 0, none⟩ = some (.string q1) ∧ w'.cell? ⟨w.heap.size, 1, none⟩ = some (.string q2)) (first | exact ⟨(Turn.refl _ _).drew, c1, z0, z1⟩ | exact ⟨(Turn.refl _ _).drew.trans t2 (fun _ _ x => x), t2.cell c1 (fun x => x), t2.cell z0 (fun x => x), t2.cell z1 (fun x => x)⟩ | go_keep) (first | (go_at_call 29; refine (HC.out i hin _ ?ht).mono ?_; (case ht => exact T0.drew); rintro e w' ⟨rfl, t2⟩))
        all_goals (go_wp2; go_ret2)
        all_goals exact ⟨i, _, rfl, T0.drew.trans t2 (fun _ _ x => x), hjn, HL.out, HR.out⟩
      · have hd : decide ((i : Int) < (n : Int)) = false := by simp; omega
        go_quiet (fail)
        go_wp2
        go_ret2
        exact ⟨i, _, rfl, (HT.out.trans HW.out (fun _ _ x => x)).drewN _, hjn, HL.out, HR.out⟩
set_option maxHeartbeats 4000000 in
set_option maxRecDepth 100000 in
/-- slices.BinarySearchFunc over a chunk's records: the first place whose key is not before q. -/
theorem bs15 (g n cap : Nat) (p : Nat → Nat) (ky : Nat → K) (q : K) (w : World) (hn : n ≤ 1000000) (hs : SlI w 36 g n cap (fun j => .pointer (some ⟨p j, 0, none⟩)))
    (h0 : ∀ j, j < n → w.cell? ⟨p j, 6, none⟩ = some (.string (ky j).1)) (h1 : ∀ j, j < n → w.cell? ⟨p j, 7, none⟩ = some (.string (ky j).2))
    (mono : ∀ i j, i ≤ j → j < n → klt (ky j) q = true → klt (ky i) q = true) :
    Calls Ybaz.prog 15 #[.slice (some ⟨g, 0, none⟩) n cap, kv q, .func (.func 16) #[] #[]] w fun e w' => ∃ (i : Nat) (f : Bool), e = .returned (.tuple #[.int .i64 i, .bool f]) ∧ Turn (fun _ => False) w w' ∧ i ≤ n ∧ (∀ j, j < i → klt (ky j) q = true) ∧ (∀ j, i ≤ j → j < n → klt (ky j) q = false) := by
  have hcl := fun j (hj : j < n) W (t : Turn (fun _ => False) w W) => cl16 (p j) (ky j) q W (t.cell (h0 j hj) (fun x => x)) (t.cell (h1 j hj) (fun x => x))
  have HC : Hid (∀ j (hj : j < n) W (t : Turn (fun _ => False) w W), Calls Ybaz.prog 16 #[.pointer (some ⟨p j, 0, none⟩), kv q] W fun e w' => e = .returned (.int .i64 (kcmp (ky j) q)) ∧ Turn (fun _ => False) W w') := hcl
  have HS : Hid (SlI w 36 g n cap (fun j => .pointer (some ⟨p j, 0, none⟩))) := hs
  have HM : Hid (∀ i j, i ≤ j → j < n → klt (ky j) q = true → klt (ky i) q = true) := mono
  clear hcl hs h0 h1 mono
  obtain ⟨q1, q2⟩ := q
  have hkv : Hid (kv (q1, q2) = .agg #[.string q1, .string q2]) := rfl
  rw [hkv.out]
  go_enter Ybaz.func15, Ybaz.ntmps15
  go_upto_block 0 with fail
  have t1 : Turn (fun _ => False) w (w.alloc (.cells #[.string q1, .string q2] 28)) := (Turn.refl _ _).alloc _
  have Z : Hid ((w.alloc (.cells #[.string q1, .string q2] 28)).heap[w.heap.size]? = some (.cells #[.string q1, .string q2] 28)) := heap_alloc_new w _
  have lz : w.heap.size < (w.alloc (.cells #[.string q1, .string q2] 28)).heap.size := by simp
  generalize w.alloc (.cells #[.string q1, .string q2] 28) = w1 at t1 Z lz ⊢
  have HT : Hid (Turn (fun _ => False) w w1) := t1
  clear t1
  go_wp2_with fail
  go_loopg [9, 10] n (fun gk s9 s10 wr => ∃ i j : Nat, i ≤ j ∧ j ≤ n ∧ gk = j - i ∧ s9 = .int .i64 i ∧ s10 = .int .i64 j ∧ Hid (Turn (fun _ => False) w1 wr) ∧ Hid (∀ k, k < i → klt (ky k) (q1, q2) = true) ∧ Hid (∀ k, j ≤ k → k < n → klt (ky k) (q1, q2) = false))
  case atStart => exact ⟨0, n, by omega, by omega, by omega, rfl, rfl, Turn.refl _ _, fun k hk => absurd hk (by omega), fun k h1 h2 => absurd h2 (by omega)⟩
  case round =>
    obtain ⟨i, j, hij, hjn, hgk, rfl, rfl, HW, HL, HR⟩ := hrel
    by_cases hlt : i < j
    · have hd : decide ((i : Int) < (j : Int)) = true := by simp; omega
      go_upto_region 5 with fail
      have hm : ((i : Int) + (j : Int)) / 2 = (((i + j) / 2 : Nat) : Int) := by omega
      obtain ⟨m, em⟩ : ∃ m : Nat, m = (i + j) / 2 := ⟨_, rfl⟩
      rw [hm, ← em]
      have m0 : i ≤ m := by omega
      have m1 : m < j := by omega
      have hmn : m < n := by omega
      clear hm em
      go_cut [31] from 24 to 31 (fun s31 wx => s31 = .bool (klt (ky m) (q1, q2)) ∧ Hid (Turn (fun _ => False) w1 wx))
      case first =>
        have T0 : Turn (fun _ => False) w wr := HT.out.trans HW.out (fun _ _ x => x)
        have c1 : wr.cell? ⟨g, m, none⟩ = some (.pointer (some ⟨p m, 0, none⟩)) := (HS.out.turn T0 (fun x => x)).cell hmn
        have Z2 : wr.heap[w.heap.size]? = some (.cells #[.string q1, .string q2] 28) := (HW.out.block _ lz (fun x => x)).trans Z.out
        have z0 : wr.cell? ⟨w.heap.size, 0, none⟩ = some (.string q1) := by rw [cell_of_row _ _ _ _ _ _ Z2]; rfl
        have z1 : wr.cell? ⟨w.heap.size, 1, none⟩ = some (.string q2) := by rw [cell_of_row _ _ _ _ _ _ Z2]; rfl
        have i0 : (0 : Int) ≤ (m : Int) := by omega
        have i1 : (m : Int) < (n : Int) := by omega
        have hdk : Hid (decide (kcmp (ky m) (q1, q2) < 0) = klt (ky m) (q1, q2)) := dec_kcmp _ _
        clear Z2 hd
        go_region_with (go_at_call 16; refine (HC.out m hmn _ ?ht).mono ?_; (case ht => first | exact T0 | exact T0.drew | exact T0.drew.drew | exact T0.drew.drew.drew); rintro e w' ⟨rfl, t2⟩)
        all_goals (go_wp2; go_meet)
        all_goals exact ⟨by rw [hdk.out], HW.out.drew.trans t2 (fun _ _ x => x)⟩
      case rest =>
        obtain ⟨rfl, HW2⟩ := hcut
        obtain ⟨wa, rfl⟩ : ∃ wa : World, wa = wc := ⟨_, rfl⟩
        cases hk : klt (ky m) (q1, q2) with
        | true =>
          go_wp2
          go_roundg (j - (m + 1))
          case measure => omega
          case rel => exact ⟨m + 1, j, by omega, hjn, rfl, by go_num, rfl, HW2, fun k hkm => HM.out k m (by omega) hmn hk, HR⟩
        | false =>
          go_wp2
          go_roundg (m - i)
          case measure => omega
          case rel => exact ⟨i, m, by omega, by omega, rfl, rfl, rfl, HW2, HL, fun k h1 h2 => by
            cases hk2 : klt (ky k) (q1, q2) with
            | false => rfl
            | true => rw [HM.out m k h1 h2 hk2] at hk; cases hk⟩
    · obtain rfl : i = j := by omega
      go_upto_region 8 with fail
      by_cases hin : i < n
      · have hd : decide ((i : Int) < (n : Int)) = true := by simp; omega
        have T0 : Turn (fun _ => False) w wr := HT.out.trans HW.out (fun _ _ x => x)
        have c1 : wr.cell? ⟨g, i, none⟩ = some (.pointer (some ⟨p i, 0, none⟩)) := (HS.out.turn T0 (fun x => x)).cell hin
        have Z2 : wr.heap[w.heap.size]? = some (.cells #[.string q1, .string q2] 28) := (HW.out.block _ lz (fun x => x)).trans Z.out
        have z0 : wr.cell? ⟨w.heap.size, 0, none⟩ = some (.string q1) := by rw [cell_of_row _ _ _ _ _ _ Z2]; rfl
        have z1 : wr.cell? ⟨w.heap.size, 1, none⟩ = some (.string q2) := by rw [cell_of_row _ _ _ _ _ _ Z2]; rfl
        have i0 : (0 : Int) ≤ (i : Int) := by omega
        have i1 : (i : Int) < (n : Int) := by omega
        clear Z2
        go_region_held3 (fun w' => Turn (fun _ => False) wr w' ∧ w'.cell? ⟨g, i, none⟩ = some (.pointer (some ⟨p i, 0, none⟩)) ∧ w'.cell? ⟨w.heap.size, 0, none⟩ = some (.string q1) ∧ w'.cell? ⟨w.heap.size, 1, none⟩ = some (.string q2)) (first | exact ⟨(Turn.refl _ _).drew, c1, z0, z1⟩ | exact ⟨(Turn.refl _ _).drew.trans t2 (fun _ _ x => x), t2.cell c1 (fun x => x), t2.cell z0 (fun x => x), t2.cell z1 (fun x => x)⟩ | go_keep) (first | (go_at_call 16; refine (HC.out i hin _ ?ht).mono ?_; (case ht => exact T0.drew); rintro e w' ⟨rfl, t2⟩))
        all_goals (go_wp2; go_ret2)
        all_goals exact ⟨i, _, rfl, T0.drew.trans t2 (fun _ _ x => x), hjn, HL.out, HR.out⟩
      · have hd : decide ((i : Int) < (n : Int)) = false := by simp; omega
        go_quiet (fail)
        go_wp2
        go_ret2
        exact ⟨i, _, rfl, (HT.out.trans HW.out (fun _ _ x => x)).drewN _, hjn, HL.out, HR.out⟩
end Go.Proofs.YbulkegkgGreat
