import Derived.Test.YbulkegnmDoorT
namespace Go.Proofs.YbulkegnmDoor
open Go Go.RowKit

/-- The cells of math/bits.deBruijn64tab that a table's growth reads. -/
def TzOk (w : World) : Prop := ∀ k : Nat, 4 ≤ k → k ≤ 15 → w.cell? ⟨8, 2 ^ k * 285870213051353865 % 18446744073709551616 / 288230376151711744, none⟩ = some (.int .u8 (k : Int))
theorem TzOk.turn {A : Nat → Prop} {w w' : World} (h : TzOk w) (t : Turn A w w') (ha : ¬ A 8) : TzOk w' := fun k h4 h15 => t.cell (h k h4 h15) ha

set_option maxRecDepth 100000 in
theorem tz_core (x idx k : Nat) (w : World) (hx : ((x : Int) == 0) = false) (hkey : IntKind.u64.wrap (bits .and .u64 (x : Int) (IntKind.u64.wrap (-(x : Int))) * 285870213051353865) / 288230376151711744 = (idx : Int)) (hi : idx < 64) (hk : k < 64) (hc : w.cell? ⟨8, idx, none⟩ = some (.int .u8 k)) :
    Calls Ybad.prog 33 #[.int .u64 x] w fun e w' => e = .returned (.int .i64 k) ∧ w' = w := by
  have i0 : (0 : Int) ≤ (idx : Int) := by omega
  have i1 : (idx : Int) < 64 := by omega
  go_enter Ybad.func33, Ybad.ntmps33
  go_wp2
  go_ret
  exact ⟨rfl, rfl⟩
theorem tz_key : ∀ k : Nat, 4 ≤ k → k ≤ 15 → IntKind.u64.wrap (bits .and .u64 ((2 ^ k : Nat) : Int) (IntKind.u64.wrap (-((2 ^ k : Nat) : Int))) * 285870213051353865) / 288230376151711744 = ((2 ^ k * 285870213051353865 % 18446744073709551616 / 288230376151711744 : Nat) : Int) := by
  intro k h4 h15
  rcases (show k = 4 ∨ k = 5 ∨ k = 6 ∨ k = 7 ∨ k = 8 ∨ k = 9 ∨ k = 10 ∨ k = 11 ∨ k = 12 ∨ k = 13 ∨ k = 14 ∨ k = 15 by omega) with rfl | rfl | rfl | rfl | rfl | rfl | rfl | rfl | rfl | rfl | rfl | rfl <;> decide +kernel
set_option maxRecDepth 100000 in
theorem tz_any (k : Nat) (h4 : 4 ≤ k) (h15 : k ≤ 15) (w : World) (h : TzOk w) : Calls Ybad.prog 26 #[.int .u64 ((2 ^ k : Nat) : Int)] w fun e w' => e = .returned (.int .i64 k) ∧ w' = w := by
  have hp : 0 < 2 ^ k := Nat.two_pow_pos _
  have hc := tz_core (2 ^ k) _ k w (beq_eq_false_iff_ne.2 (fun e => by have : 2 ^ k = 0 := Int.ofNat_eq_zero.1 e; omega)) (tz_key k h4 h15) (by omega) (by omega) (h k h4 h15)
  generalize ((2 ^ k : Nat) : Int) = X at hc ⊢
  go_enter Ybad.func26, Ybad.ntmps26
  go_wp2_with (go_at_call 33; refine hc.mono ?_; rintro e w' ⟨rfl, rfl⟩)
  go_ret
  exact ⟨rfl, rfl⟩

theorem info47 : (Ybad.prog.info? 47).map (fun i => (i.zero, i.size, i.bytes)) = some (some (.agg #[.int .i64 0, .int .i64 0, .int .u32 0]), 3, 24) := by kernel_rfl

set_option maxHeartbeats 1000000 in
set_option maxRecDepth 100000 in
theorem grow_any (O S n k' cur sh : Nat) (a : Option Addr) (h0 : Int → Nat) (nd pl : Nat → Int) (st : Nat → Nat) (E : List (Int × Int)) (v4 v5 v6 v7 v8 : Value) (w : World)
    (ho : w.rowIs O 37 9 (reF (.slice a n n) sh cur E.length v4 v5 v6 v7 v8)) (ha : 0 < n → a = some ⟨S, 0, none⟩ ∧ w.rowIs S 47 (n * 3) (slF nd pl st)) (inv : TInv n h0 cur nd pl st E)
    (hk' : max 16 (2 * n) = 2 ^ k') (h4 : 4 ≤ k') (h15 : k' ≤ 15) (c0 : 1 ≤ cur) (c1 : cur < 4294967296) (hz : TzOk w) (hO8 : O ≠ 8) :
    Calls Ybad.prog 22 #[.pointer (some ⟨O, 0, none⟩)] w fun e w' => ∃ S' nd' pl' st', e = .returned (.tuple #[]) ∧ Turn (fun b => b = O) w w' ∧ Tb w' O S' (2 ^ k') k' cur nd' pl' st' E v4 v5 v6 v7 v8 ∧ w.heap.size ≤ S' := by
  obtain ⟨i0, i1, i2, i3, i4⟩ := info_parts info47
  obtain ⟨n', hn'⟩ : ∃ n', n' = 2 ^ k' := ⟨_, rfl⟩
  have hb1 : 2 ^ k' ≤ 2 ^ 15 := Nat.pow_le_pow_right (by omega) h15
  have hb2 : (2 : Nat) ^ 15 = 32768 := by decide
  have hn1 : n' ≤ 32768 := by omega
  have hn2 : 2 * n ≤ n' := by omega
  have hmx : (if (16 : Int) < 2 * (n : Int) then 2 * (n : Int) else 16) = (n' : Int) := by split <;> omega
  have hmk := fun W => run_make (P := Ybad.prog) W 31 47 i0 _ Ybad.underlying31 i1 i2 .i64 .i64 (n' : Int) (n' : Int) (by omega) (Int.le_refl _) (by rw [i4]; omega) (by omega)
  simp only [Int.toNat_natCast, i3] at hmk
  have x0 : w.cell? ⟨O, 0, none⟩ = some (.slice a n n) := ho.cell (by omega)
  have fo : ∀ j, w.frozen? ⟨O, j, none⟩ = false := fun j => ho.frozen j
  have xa : ∀ o, (w.alloc o).cell? ⟨O, 0, none⟩ = some (.slice a n n) := fun o => ((Turn.refl (fun _ => False) w).alloc o).cell x0 (fun y => y)
  have fa : ∀ o j, (w.alloc o).frozen? ⟨O, j, none⟩ = false := fun o j => ((Turn.refl (fun _ => False) w).alloc o).frozen ho.lt (fun y => y) |>.trans (fo j)
  have HO : Hid (w.rowIs O 37 9 (reF (.slice a n n) sh cur E.length v4 v5 v6 v7 v8)) := ho
  have HA : Hid (0 < n → a = some ⟨S, 0, none⟩ ∧ w.rowIs S 47 (n * 3) (slF nd pl st)) := ha
  have HI : Hid (TInv n h0 cur nd pl st E) := inv
  have HK : Hid (n' = 2 ^ k') := hn'
  have HZ : Hid (TzOk w) := hz
  clear ho ha inv hn' hb1 hb2 hk' hz
  go_enter Ybad.func22, Ybad.ntmps22
  go_upto_region 3 with fail
  have t1 : Turn (fun b => b = O) w ((w.alloc (.cells (madeCells #[.int .i64 0, .int .i64 0, .int .u32 0] (n' * 3)) 47)).setCell ⟨O, 0, none⟩ (.slice (some ⟨w.heap.size, 0, none⟩) n' n')) := ((Turn.refl (fun b => b = O) w).alloc _).setCell (p := ⟨O, 0, none⟩) (.inr rfl) _
  have lO := HO.out.lt
  have rS : ((w.alloc (.cells (madeCells #[.int .i64 0, .int .i64 0, .int .u32 0] (n' * 3)) 47)).setCell ⟨O, 0, none⟩ (.slice (some ⟨w.heap.size, 0, none⟩) n' n')).rowIs w.heap.size 47 (n' * 3) (slF (fun _ => 0) (fun _ => 0) (fun _ => 0)) := by
    refine World.rowIs.setOther ⟨_, Go.Deep.blk_alloc_new _ _, size_madeCells _ _, fun j hj => ?_⟩ (show w.heap.size ≠ O by omega) _
    rcases (show j % 3 = 0 ∨ j % 3 = 1 ∨ j % 3 = 2 by omega) with e | e | e <;> simp [madeCells, hj, slF, e]
  have rO : ((w.alloc (.cells (madeCells #[.int .i64 0, .int .i64 0, .int .u32 0] (n' * 3)) 47)).setCell ⟨O, 0, none⟩ (.slice (some ⟨w.heap.size, 0, none⟩) n' n')).rowIs O 37 9 (reF (.slice (some ⟨w.heap.size, 0, none⟩) n' n') sh cur E.length v4 v5 v6 v7 v8) := re_slots (HO.out.alloc _) _
  generalize (w.alloc (.cells (madeCells #[.int .i64 0, .int .i64 0, .int .u32 0] (n' * 3)) 47)).setCell ⟨O, 0, none⟩ (.slice (some ⟨w.heap.size, 0, none⟩) n' n') = w1 at t1 rS rO ⊢
  have z1 : TzOk w1 := HZ.out.turn t1 (fun e => hO8 e.symm)
  have htz := tz_any k' h4 h15 w1 z1
  rw [← HK.out] at htz
  have fo1 : ∀ j, w1.frozen? ⟨O, j, none⟩ = false := fun j => rO.frozen j
  have y1 : w1.cell? ⟨O, 1, none⟩ = some (.int .u64 sh) := rO.cell (by omega)
  have y3 : w1.cell? ⟨O, 3, none⟩ = some (.int .i64 (E.length : Nat)) := rO.cell (by omega)
  have RS : Hid (w1.rowIs w.heap.size 47 (n' * 3) (slF (fun _ => 0) (fun _ => 0) (fun _ => 0))) := rS
  have RO : Hid (w1.rowIs O 37 9 (reF (.slice (some ⟨w.heap.size, 0, none⟩) n' n') sh cur E.length v4 v5 v6 v7 v8)) := rO
  clear rS rO xa fa x0 fo z1 hmk
  go_upto_region 5 with (go_at_call 26; refine htz.mono ?_; rintro e w' ⟨rfl, rfl⟩)
  have e64 : (64 : Int) - (k' : Int) = ((64 - k' : Nat) : Int) := by omega
  rw [e64]
  have t2 : Turn (fun b => b = O) w ((w'.setCell ⟨O, 1, none⟩ (.int .u64 ((64 - k' : Nat) : Int))).setCell ⟨O, 3, none⟩ (.int .i64 ((0 : Nat) : Int))) := (t1.setCell (p := ⟨O, 1, none⟩) (.inr rfl) _).setCell (p := ⟨O, 3, none⟩) (.inr rfl) _
  have neS : w.heap.size ≠ O := by omega
  have T2 : Tb ((w'.setCell ⟨O, 1, none⟩ (.int .u64 ((64 - k' : Nat) : Int))).setCell ⟨O, 3, none⟩ (.int .i64 ((0 : Nat) : Int))) O w.heap.size n' k' cur (fun _ => 0) (fun _ => 0) (fun _ => 0) (entries cur nd pl st 0) v4 v5 v6 v7 v8 :=
    ⟨re_used (re_shift RO.out (64 - k')) 0, (RS.out.setOther neS _).setOther neS _, HK.out, h4, h15, TInv.empty _ _ _ _ _ _ (fun i _ e => by omega), fun i _ => Nat.zero_le _, c0, c1, by simp [entries]⟩
  have ez : ((0 : Nat) : Int) = 0 := rfl
  rw [ez] at t2 T2
  generalize (w'.setCell ⟨O, 1, none⟩ (.int .u64 ((64 - k' : Nat) : Int))).setCell ⟨O, 3, none⟩ (.int .i64 0) = w2 at t2 T2 ⊢
  have H2 : Hid (Tb w2 O w.heap.size n' k' cur (fun _ => 0) (fun _ => 0) (fun _ => 0) (entries cur nd pl st 0) v4 v5 v6 v7 v8) := T2
  clear T2 fo1 y1 y3 RS RO htz t1 e64 ez
  go_wp2
  go_loopg [32] n (fun gk s32 wr => ∃ m : Nat, m ≤ n ∧ gk = n - m ∧ s32 = .int .i64 m ∧ Turn (fun b => b = O) w wr ∧ ∃ nd' pl' st', Tb wr O w.heap.size n' k' cur nd' pl' st' (entries cur nd pl st m) v4 v5 v6 v7 v8)
  case atStart => exact ⟨0, by omega, rfl, rfl, t2, _, _, _, H2.out⟩
  case round =>
    obtain ⟨m, hmn, hgk, rfl, hT, nd', pl', st', hB⟩ := hrel
    by_cases hlt : m < n
    · obtain ⟨rfl, hs⟩ := HA.out (by omega)
      have hs2 := hT.row hs (row_ne hs HO.out (by decide))
      have z0 : wr.cell? ⟨S, m * 3, none⟩ = some (.int .i64 (nd m)) := by rw [hs2.cell (by omega), slF0]
      have z1 : wr.cell? ⟨S, m * 3 + 1, none⟩ = some (.int .i64 (pl m)) := by rw [hs2.cell (by omega), slF1]
      have z2 : wr.cell? ⟨S, m * 3 + 2, none⟩ = some (.int .u32 (st m)) := by rw [hs2.cell (by omega), slF2]
      have j0 : (0 : Int) ≤ (m : Int) := by omega
      have j1 : (m : Int) < (n : Int) := by omega
      have HB : Hid (Tb wr O w.heap.size n' k' cur nd' pl' st' (entries cur nd pl st m) v4 v5 v6 v7 v8) := hB
      clear hs hs2 hB
      go_upto_region 8 with fail
      have t3 : Turn (fun _ => False) wr (wr.alloc (.cells #[.int .i64 (nd m), .int .i64 (pl m), .int .u32 (st m)] 47)) := (Turn.refl _ _).alloc _
      have q0 : (wr.alloc (.cells #[.int .i64 (nd m), .int .i64 (pl m), .int .u32 (st m)] 47)).cell? ⟨wr.heap.size, 0, none⟩ = some (.int .i64 (nd m)) := by rw [cell_of_row _ _ _ _ _ _ (heap_alloc_new wr _)]; rfl
      have q1 : (wr.alloc (.cells #[.int .i64 (nd m), .int .i64 (pl m), .int .u32 (st m)] 47)).cell? ⟨wr.heap.size, 1, none⟩ = some (.int .i64 (pl m)) := by rw [cell_of_row _ _ _ _ _ _ (heap_alloc_new wr _)]; rfl
      have q2 : (wr.alloc (.cells #[.int .i64 (nd m), .int .i64 (pl m), .int .u32 (st m)] 47)).cell? ⟨wr.heap.size, 2, none⟩ = some (.int .u32 (st m)) := by rw [cell_of_row _ _ _ _ _ _ (heap_alloc_new wr _)]; rfl
      generalize wr.alloc (.cells #[.int .i64 (nd m), .int .i64 (pl m), .int .u32 (st m)] 47) = w3 at t3 q0 q1 q2 ⊢
      have H3 : Hid (Tb w3 O w.heap.size n' k' cur nd' pl' st' (entries cur nd pl st m) v4 v5 v6 v7 v8) := HB.out.turn t3 (fun y => y) (fun y => y)
      have x2 : w3.cell? ⟨O, 2, none⟩ = some (.int .u32 cur) := H3.out.o.cell (by omega)
      have hT3 : Turn (fun b => b = O) w w3 := hT.trans t3 (fun _ _ y => y.elim)
      clear z0 z1 z2
      by_cases hlive : st m = cur
      · have hd1 : ((st m : Int) == (cur : Int)) = true := by simp; omega
        have hEl := HI.out.entries_lt hlt hlive
        have hEn : E.length ≤ n := by rw [← HI.out.cnt]; exact cntB_le _ _
        have hpl := fun W (t : Turn (fun _ => False) w3 W) => place_in O w.heap.size n' k' cur nd' pl' st' _ v4 v5 v6 v7 v8 (nd m) (pl m) W (H3.out.turn t (fun y => y) (fun y => y)) (by omega)
        clear hEl hEn
        go_quiet (fail)
        go_wp2_with (go_at_call 20; refine (hpl _ ((Turn.refl _ _).drewN _)).mono ?_; rintro e w4 ⟨nd4, pl4, st4, E4, q, sn, rfl, t4, hB4, hR⟩)
        go_roundg (n - (m + 1))
        case measure => omega
        case rel =>
          refine ⟨m + 1, by omega, rfl, by go_num, (hT3.drewN _).trans t4 (fun i hi e => by rcases e with e | e; exact e; omega), nd4, pl4, st4, ?_⟩
          rcases hR with ⟨_, hm, _⟩ | ⟨_, _, _, hE⟩
          · exact absurd hm (HI.out.entries_new hlt hlive _)
          · rw [entries, if_pos hlive, ← hE]; exact hB4
      · have hd1 : ((st m : Int) == (cur : Int)) = false := by simp; omega
        go_quiet (fail)
        go_wp2
        go_roundg (n - (m + 1))
        case measure => omega
        case rel =>
          refine ⟨m + 1, by omega, rfl, by go_num, hT3.drewN _, nd', pl', st', ?_⟩
          rw [entries, if_neg hlive, List.append_nil]
          exact H3.out.turn ((Turn.refl (fun _ => False) _).drewN _) (fun y => y) (fun y => y)
    · obtain rfl : m = n := by omega
      go_wp2
      go_end0
      exact ⟨w.heap.size, nd', pl', st', rfl, hT, by rw [← HK.out]; exact ⟨by rw [← HI.out.cnt, ← entries_length (nd := nd) (pl := pl)]; exact hB.o, hB.s, hB.nk, hB.k4, hB.k15, HI.out.regrown hB.inv, hB.le, hB.c0, hB.c1, by have := HI.out.cnt; have h7 := cntB_le (fun i => st i == cur) m; omega⟩, Nat.le_refl _⟩
end Go.Proofs.YbulkegnmDoor
