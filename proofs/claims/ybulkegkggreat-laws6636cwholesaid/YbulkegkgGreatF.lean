import Derived.Test.YbulkegkgGreatS
namespace Go.Proofs.YbulkegkgGreat
open Go.RowKit

/-- A chunk's four cells. -/
def chF (recs : Value) (k : K) : Nat → Value := fun j => if j = 0 then recs else if j = 1 then .int .u64 1 else if j = 2 then .string k.1 else .string k.2
/-- The chunks of a well-formed sortedRecords over the keys ks: chunk c holds the records of the places from bd c to bd (c + 1). -/
structure Chunks (w : World) (gC cC m : Nat) (cb rb rc bd rec : Nat → Nat) (ks : Nat → K) : Prop where
  sl : SlI w 58 gC m cC (fun c => .pointer (some ⟨cb c, 0, none⟩))
  ch : ∀ c, c < m → w.rowIs (cb c) 60 4 (chF (.slice (some ⟨rb c, 0, none⟩) (bd (c + 1) - bd c) (rc c)) (ks (bd (c + 1) - 1)))
  rs : ∀ c, c < m → SlI w 36 (rb c) (bd (c + 1) - bd c) (rc c) (fun j => .pointer (some ⟨rec (bd c + j), 0, none⟩))
  k0 : ∀ t, t < bd m → w.cell? ⟨rec t, 6, none⟩ = some (.string (ks t).1)
  k1 : ∀ t, t < bd m → w.cell? ⟨rec t, 7, none⟩ = some (.string (ks t).2)
  b0 : bd 0 = 0
  bs : ∀ c, c < m → bd c < bd (c + 1)
theorem bd_mono {bd : Nat → Nat} {m : Nat} (h : ∀ c, c < m → bd c < bd (c + 1)) : ∀ j, j ≤ m → ∀ i, i ≤ j → bd i ≤ bd j
  | 0, _, i, hi => by have : i = 0 := by omega
                      rw [this]; exact Nat.le_refl _
  | j + 1, hj, i, hi => by
    by_cases e : i = j + 1
    · rw [e]; exact Nat.le_refl _
    · have h1 := bd_mono h j (by omega) i (by omega)
      have h2 := h j (by omega)
      omega
def Sorted (n : Nat) (ks : Nat → K) : Prop := ∀ i j, i ≤ j → j < n → klt (ks j) (ks i) = false
theorem Sorted.mono {n : Nat} {ks : Nat → K} (h : Sorted n ks) (q : K) : ∀ i j, i ≤ j → j < n → klt (ks j) q = true → klt (ks i) q = true := by
  intro i j hij hj hq
  cases hk : klt (ks i) q with
  | true => rfl
  | false => rw [klt_ntrans (h i j hij hj) hk] at hq; cases hq
theorem Chunks.turn {w w' : World} {gC cC m : Nat} {cb rb rc bd rec : Nat → Nat} {ks : Nat → K} (h : Chunks w gC cC m cb rb rc bd rec ks) (t : Turn (fun _ => False) w w') : Chunks w' gC cC m cb rb rc bd rec ks :=
  ⟨h.sl.turn t (fun x => x), fun c hc => t.row (h.ch c hc) (fun x => x), fun c hc => (h.rs c hc).turn t (fun x => x), fun t' ht => t.cell (h.k0 t' ht) (fun x => x), fun t' ht => t.cell (h.k1 t' ht) (fun x => x), h.b0, h.bs⟩

set_option maxHeartbeats 4000000 in
set_option maxRecDepth 100000 in
theorem chunkOf_any (O gC cC m : Nat) (cb rb rc bd rec : Nat → Nat) (ks : Nat → K) (q : K) (w : World) (h : Chunks w gC cC m cb rb rc bd rec ks) (ho : w.cell? ⟨O, 0, none⟩ = some (.slice (some ⟨gC, 0, none⟩) m cC)) (hm : m ≤ 100000) (hs : Sorted (bd m) ks) :
    Calls Ybaz.prog 14 #[.pointer (some ⟨O, 0, none⟩), kv q] w fun e w' => ∃ i : Nat, e = .returned (.int .i64 i) ∧ Turn (fun _ => False) w w' ∧ i ≤ m ∧ (∀ c, c < i → klt (ks (bd (c + 1) - 1)) q = true) ∧ (∀ c, i ≤ c → c < m → klt (ks (bd (c + 1) - 1)) q = false) := by
  have hbs := fun W (t : Turn (fun _ => False) w W) => bs28 gC m cC cb (fun c => ks (bd (c + 1) - 1)) q W (by omega) (h.turn t).sl (fun c hc => ((h.turn t).ch c hc).cell (by omega)) (fun c hc => ((h.turn t).ch c hc).cell (by omega)) (fun i j hij hj hk => by
    have h1 := bd_mono h.bs m (Nat.le_refl _) (j + 1) (by omega)
    have h2 := bd_mono h.bs (j + 1) (by omega) (i + 1) (by omega)
    have h3 := h.bs i (by omega)
    have h4 := h.bs j (by omega)
    exact hs.mono q _ _ (by omega) (by omega) hk)
  clear h hs
  obtain ⟨q1, q2⟩ := q
  have hkv : Hid (kv (q1, q2) = .agg #[.string q1, .string q2]) := rfl
  rw [hkv.out] at hbs ⊢
  go_enter Ybaz.func14, Ybaz.ntmps14
  go_upto_region 1 with fail
  have t1 : Turn (fun _ => False) w (w.alloc (.cells #[.string q1, .string q2] 28)) := (Turn.refl _ _).alloc _
  have y0 := t1.cell ho (fun x => x)
  have z0 : (w.alloc (.cells #[.string q1, .string q2] 28)).cell? ⟨w.heap.size, 0, none⟩ = some (.string q1) := by rw [cell_of_row _ _ _ _ _ _ (heap_alloc_new w _)]; rfl
  have z1 : (w.alloc (.cells #[.string q1, .string q2] 28)).cell? ⟨w.heap.size, 1, none⟩ = some (.string q2) := by rw [cell_of_row _ _ _ _ _ _ (heap_alloc_new w _)]; rfl
  generalize w.alloc (.cells #[.string q1, .string q2] 28) = w1 at t1 y0 z0 z1 ⊢
  go_region_held3 (fun w' => Turn (fun _ => False) w1 w' ∧ w'.cell? ⟨O, 0, none⟩ = some (.slice (some ⟨gC, 0, none⟩) m cC) ∧ w'.cell? ⟨w.heap.size, 0, none⟩ = some (.string q1) ∧ w'.cell? ⟨w.heap.size, 1, none⟩ = some (.string q2)) (first | exact ⟨(Turn.refl _ _).drew, y0, z0, z1⟩ | exact ⟨(Turn.refl _ _).drew.trans t2 (fun _ _ x => x), t2.cell y0 (fun x => x), t2.cell z0 (fun x => x), t2.cell z1 (fun x => x)⟩ | go_keep) (first | (go_at_call 28; refine (hbs _ t1.drew).mono ?_; rintro e w' ⟨i, f, rfl, t2, hi, hl, hr⟩))
  all_goals (go_wp2; go_ret)
  all_goals exact ⟨i, rfl, t1.drew.trans t2 (fun _ _ x => x), hi, hl, hr⟩

set_option maxHeartbeats 1000000 in
set_option maxRecDepth 100000 in
/-- countIn over the first i chunks: bd i. -/
theorem countIn_any (gC cC m i : Nat) (cb rb rc bd rec : Nat → Nat) (ks : Nat → K) (w : World) (h : Chunks w gC cC m cb rb rc bd rec ks) (hi : i ≤ m) (hm : m ≤ 100000) (hb : bd m ≤ 1000000) :
    Calls Ybaz.prog 11 #[.slice (some ⟨gC, 0, none⟩) i cC] w fun e w' => e = .returned (.int .i64 (bd i)) ∧ w' = w := by
  have HC : Hid (Chunks w gC cC m cb rb rc bd rec ks) := h
  have hle : ∀ c, c ≤ m → bd c ≤ 1000000 := fun c hc => Nat.le_trans (bd_mono h.bs m (Nat.le_refl _) c hc) hb
  have HL : Hid (∀ c, c ≤ m → bd c ≤ 1000000) := hle
  have HB : Hid (bd 0 = 0) := h.b0
  have HS : Hid (∀ c, c < m → bd c < bd (c + 1)) := h.bs
  clear h hle hb
  go_enter Ybaz.func11, Ybaz.ntmps11
  go_wp2
  go_loopg [3, 8] i (fun gk s3 s8 wr => ∃ c : Nat, c ≤ i ∧ gk = i - c ∧ s3 = .int .i64 (bd c) ∧ s8 = .int .i64 c ∧ wr = w)
  case atStart => exact ⟨0, by omega, rfl, by rw [HB.out]; rfl, rfl, rfl⟩
  case round =>
    obtain ⟨c, hci, hgk, rfl, rfl, rfl⟩ := hrel
    by_cases hlt : c < i
    · have x1 : wr.cell? ⟨gC, c, none⟩ = some (.pointer (some ⟨cb c, 0, none⟩)) := HC.out.sl.cell (by omega)
      have x2 : wr.cell? ⟨cb c, 0, none⟩ = some (.slice (some ⟨rb c, 0, none⟩) (bd (c + 1) - bd c) (rc c)) := (HC.out.ch c (by omega)).cell (by omega)
      have e1 := HL.out c (by omega)
      have e2 := HL.out (c + 1) (by omega)
      have e3 := HS.out c (by omega)
      have i0 : (0 : Int) ≤ (c : Int) := by omega
      have i1 : (c : Int) < (i : Int) := by omega
      obtain ⟨d, hd⟩ : ∃ d, bd (c + 1) - bd c = d := ⟨_, rfl⟩
      rw [hd] at x2
      have hd2 : Hid (bd (c + 1) = bd c + d) := show bd (c + 1) = bd c + d by omega
      have dl : d ≤ 1000000 := by omega
      clear hd e2 e3
      go_wp2
      go_roundg (i - (c + 1))
      case measure => omega
      case rel => exact ⟨c + 1, by omega, rfl, by rw [hd2.out]; go_num, by go_num, rfl⟩
    · obtain rfl : c = i := by omega
      go_wp2
      go_ret
      exact ⟨rfl, rfl⟩

/-- The place that find finds. -/
structure Found (m : Nat) (bd : Nat → Nat) (ks : Nat → K) (q : K) (i j : Nat) : Prop where
  im : i ≤ m
  lo : ∀ t, t < bd i + j → klt (ks t) q = true
  hi : ∀ t, bd i + j ≤ t → t < bd m → klt (ks t) q = false
  le : bd i + j ≤ bd m
theorem lo_of {m : Nat} {bd : Nat → Nat} {ks : Nat → K} {q : K} {i : Nat} (hs : Sorted (bd m) ks) (b0 : bd 0 = 0) (bs : ∀ c, c < m → bd c < bd (c + 1)) (hi : i ≤ m) (hl : ∀ c, c < i → klt (ks (bd (c + 1) - 1)) q = true) : ∀ t, t < bd i → klt (ks t) q = true := by
  intro t ht
  obtain ⟨c, rfl⟩ : ∃ c, i = c + 1 := by
    cases i with
    | zero => omega
    | succ c => exact ⟨c, rfl⟩
  have h1 := bd_mono bs m (Nat.le_refl _) (c + 1) hi
  exact hs.mono q t (bd (c + 1) - 1) (by omega) (by omega) (hl c (by omega))
theorem found_in {m : Nat} {bd : Nat → Nat} {ks : Nat → K} {q : K} {i j : Nat} (hs : Sorted (bd m) ks) (b0 : bd 0 = 0) (bs : ∀ c, c < m → bd c < bd (c + 1)) (him : i < m) (hl : ∀ c, c < i → klt (ks (bd (c + 1) - 1)) q = true) (hr : ∀ c, i ≤ c → c < m → klt (ks (bd (c + 1) - 1)) q = false)
    (hj : j ≤ bd (i + 1) - bd i) (hjl : ∀ k, k < j → klt (ks (bd i + k)) q = true) (hjr : ∀ k, j ≤ k → k < bd (i + 1) - bd i → klt (ks (bd i + k)) q = false) : Found m bd ks q i j := by
  have h1 := bd_mono bs m (Nat.le_refl _) (i + 1) (by omega)
  have h2 := bs i him
  refine ⟨by omega, fun t ht => ?_, fun t h3 h4 => ?_, by omega⟩
  · by_cases h : t < bd i
    · exact lo_of hs b0 bs (by omega) hl t h
    · have := hjl (t - bd i) (by omega)
      rwa [show bd i + (t - bd i) = t by omega] at this
  · by_cases h : t < bd (i + 1)
    · have := hjr (t - bd i) (by omega) (by omega)
      rwa [show bd i + (t - bd i) = t by omega] at this
    · cases hk : klt (ks t) q with
      | false => rfl
      | true =>
        have := hs.mono q (bd (i + 1) - 1) t (by omega) h4 hk
        rw [hr i (Nat.le_refl _) him] at this
        cases this
set_option maxHeartbeats 4000000 in
set_option maxRecDepth 100000 in
theorem find_any (O gC cC m : Nat) (cb rb rc bd rec : Nat → Nat) (ks : Nat → K) (q : K) (w : World) (h : Chunks w gC cC m cb rb rc bd rec ks) (ho : w.cell? ⟨O, 0, none⟩ = some (.slice (some ⟨gC, 0, none⟩) m cC)) (hm : m ≤ 100000) (hb : bd m ≤ 100000) (hs : Sorted (bd m) ks) :
    Calls Ybaz.prog 10 #[.pointer (some ⟨O, 0, none⟩), kv q] w fun e w' => ∃ (i j : Nat) (f : Bool), e = .returned (.tuple #[.int .i64 i, .int .i64 j, .bool f]) ∧ Turn (fun _ => False) w w' ∧ Found m bd ks q i j ∧ j ≤ 100000 := by
  have HH : Hid (Chunks w gC cC m cb rb rc bd rec ks) := h
  have HS : Hid (Sorted (bd m) ks) := hs
  have hco := fun W (t : Turn (fun _ => False) w W) => chunkOf_any O gC cC m cb rb rc bd rec ks q W (h.turn t) (t.cell ho (fun x => x)) hm hs
  have hbs := fun c (hc : c < m) W (t : Turn (fun _ => False) w W) => bs15 (rb c) (bd (c + 1) - bd c) (rc c) (fun j => rec (bd c + j)) (fun j => ks (bd c + j)) q W (by
    have h1 := bd_mono h.bs m (Nat.le_refl _) (c + 1) (by omega)
    omega) ((h.turn t).rs c hc) (fun j hj => (h.turn t).k0 _ (by have h1 := bd_mono h.bs m (Nat.le_refl _) (c + 1) (by omega); omega)) (fun j hj => (h.turn t).k1 _ (by have h1 := bd_mono h.bs m (Nat.le_refl _) (c + 1) (by omega); omega)) (fun i j hij hj hk => by
    have h1 := bd_mono h.bs m (Nat.le_refl _) (c + 1) (by omega)
    exact hs.mono q _ _ (by omega) (by omega) hk)
  clear h hs
  obtain ⟨q1, q2⟩ := q
  have hkv : Hid (kv (q1, q2) = .agg #[.string q1, .string q2]) := rfl
  rw [hkv.out] at hco ⊢
  have HB : Hid (∀ c (hc : c < m) W (t : Turn (fun _ => False) w W), Calls Ybaz.prog 15 #[.slice (some ⟨rb c, 0, none⟩) (bd (c + 1) - bd c) (rc c), .agg #[.string q1, .string q2], .func (.func 16) #[] #[]] W fun e w' => ∃ (i : Nat) (f : Bool), e = .returned (.tuple #[.int .i64 i, .bool f]) ∧ Turn (fun _ => False) W w' ∧ i ≤ bd (c + 1) - bd c ∧ (∀ j, j < i → klt (ks (bd c + j)) (q1, q2) = true) ∧ (∀ j, i ≤ j → j < bd (c + 1) - bd c → klt (ks (bd c + j)) (q1, q2) = false)) := hbs
  clear hbs
  go_enter Ybaz.func10, Ybaz.ntmps10
  go_upto_region 1 with fail
  have t1 : Turn (fun _ => False) w (w.alloc (.cells #[.string q1, .string q2] 28)) := (Turn.refl _ _).alloc _
  have Z : (w.alloc (.cells #[.string q1, .string q2] 28)).heap[w.heap.size]? = some (.cells #[.string q1, .string q2] 28) := heap_alloc_new w _
  have lz : w.heap.size < (w.alloc (.cells #[.string q1, .string q2] 28)).heap.size := by simp
  generalize w.alloc (.cells #[.string q1, .string q2] 28) = w1 at t1 Z lz ⊢
  have z0 : w1.cell? ⟨w.heap.size, 0, none⟩ = some (.string q1) := by rw [cell_of_row _ _ _ _ _ _ Z]; rfl
  have z1 : w1.cell? ⟨w.heap.size, 1, none⟩ = some (.string q2) := by rw [cell_of_row _ _ _ _ _ _ Z]; rfl
  go_upto_region 2 with (go_at_call 14; refine (hco _ t1).mono ?_; rintro e w2 ⟨i, rfl, t2, hi, hl, hr⟩)
  have T2 : Turn (fun _ => False) w w2 := t1.trans t2 (fun _ _ x => x)
  have y0 := T2.cell ho (fun x => x)
  have z0' := t2.cell z0 (fun x => x)
  have z1' := t2.cell z1 (fun x => x)
  have HL : Hid (∀ c, c < i → klt (ks (bd (c + 1) - 1)) (q1, q2) = true) := hl
  have HR : Hid (∀ c, i ≤ c → c < m → klt (ks (bd (c + 1) - 1)) (q1, q2) = false) := hr
  clear z0 z1 hl hr hco Z
  by_cases him : i < m
  · have hd : decide ((i : Int) < (m : Int)) = true := by simp; omega
    have x1 : w2.cell? ⟨gC, i, none⟩ = some (.pointer (some ⟨cb i, 0, none⟩)) := (HH.out.turn T2).sl.cell him
    have x2 : w2.cell? ⟨cb i, 0, none⟩ = some (.slice (some ⟨rb i, 0, none⟩) (bd (i + 1) - bd i) (rc i)) := ((HH.out.turn T2).ch i him).cell (by omega)
    have i0 : (0 : Int) ≤ (i : Int) := by omega
    have i1 : (i : Int) < (m : Int) := by omega
    go_upto_region 3 with fail
    go_region_held3 (fun w' => Turn (fun _ => False) w2 w' ∧ w'.cell? ⟨O, 0, none⟩ = some (.slice (some ⟨gC, 0, none⟩) m cC) ∧ w'.cell? ⟨gC, i, none⟩ = some (.pointer (some ⟨cb i, 0, none⟩)) ∧ w'.cell? ⟨cb i, 0, none⟩ = some (.slice (some ⟨rb i, 0, none⟩) (bd (i + 1) - bd i) (rc i)) ∧ w'.cell? ⟨w.heap.size, 0, none⟩ = some (.string q1) ∧ w'.cell? ⟨w.heap.size, 1, none⟩ = some (.string q2)) (first | exact ⟨(Turn.refl _ _).drew, y0, x1, x2, z0', z1'⟩ | exact ⟨(Turn.refl _ _).drew.trans t3 (fun _ _ x => x), t3.cell y0 (fun x => x), t3.cell x1 (fun x => x), t3.cell x2 (fun x => x), t3.cell z0' (fun x => x), t3.cell z1' (fun x => x)⟩ | go_keep) (first | (go_at_call 15; refine (HB.out i him _ T2.drew).mono ?_; rintro e w' ⟨j, f, rfl, t3, hj, hjl, hjr⟩))
    all_goals (go_wp2; go_ret3)
    all_goals exact ⟨i, j, f, rfl, T2.drew.trans t3 (fun _ _ x => x), found_in HS.out HH.out.b0 HH.out.bs him HL.out HR.out hj hjl hjr, by have := bd_mono HH.out.bs m (Nat.le_refl _) (i + 1) (by omega); omega⟩
  · obtain rfl : i = m := by omega
    have hd : decide ((i : Int) < (i : Int)) = false := by simp
    go_wp2
    go_ret3
    exact ⟨i, 0, false, rfl, T2, ⟨Nat.le_refl _, fun t ht => lo_of HS.out HH.out.b0 HH.out.bs (Nat.le_refl _) HL.out t (by omega), fun t h3 h4 => absurd h4 (by omega), by omega⟩, by omega⟩

set_option maxHeartbeats 4000000 in
set_option maxRecDepth 100000 in
theorem before_any (O gC cC m : Nat) (cb rb rc bd rec : Nat → Nat) (ks : Nat → K) (q : K) (w : World) (h : Chunks w gC cC m cb rb rc bd rec ks) (ho : w.cell? ⟨O, 0, none⟩ = some (.slice (some ⟨gC, 0, none⟩) m cC)) (hm : m ≤ 100000) (hb : bd m ≤ 100000) (hs : Sorted (bd m) ks) :
    Calls Ybaz.prog 4 #[.pointer (some ⟨O, 0, none⟩), kv q] w fun e w' => ∃ N : Nat, e = .returned (.int .i64 N) ∧ Turn (fun _ => False) w w' ∧ N ≤ bd m ∧ (∀ t, t < N → klt (ks t) q = true) ∧ (∀ t, N ≤ t → t < bd m → klt (ks t) q = false) := by
  have HH : Hid (Chunks w gC cC m cb rb rc bd rec ks) := h
  have hf := fun W (t : Turn (fun _ => False) w W) => find_any O gC cC m cb rb rc bd rec ks q W (h.turn t) (t.cell ho (fun x => x)) hm hb hs
  have hc := fun W (t : Turn (fun _ => False) w W) i (hi : i ≤ m) => countIn_any gC cC m i cb rb rc bd rec ks W (h.turn t) hi hm (by omega)
  have HB : Hid (bd m ≤ 100000) := hb
  have hcap := h.sl.le
  clear h hs hb
  obtain ⟨q1, q2⟩ := q
  have hkv : Hid (kv (q1, q2) = .agg #[.string q1, .string q2]) := rfl
  rw [hkv.out] at hf ⊢
  go_enter Ybaz.func4, Ybaz.ntmps4
  go_upto_region 3 with fail
  have t1 : Turn (fun _ => False) w (w.alloc (.cells #[.string q1, .string q2] 28)) := (Turn.refl _ _).alloc _
  have z0 : (w.alloc (.cells #[.string q1, .string q2] 28)).cell? ⟨w.heap.size, 0, none⟩ = some (.string q1) := by rw [cell_of_row _ _ _ _ _ _ (heap_alloc_new w _)]; rfl
  have z1 : (w.alloc (.cells #[.string q1, .string q2] 28)).cell? ⟨w.heap.size, 1, none⟩ = some (.string q2) := by rw [cell_of_row _ _ _ _ _ _ (heap_alloc_new w _)]; rfl
  generalize w.alloc (.cells #[.string q1, .string q2] 28) = w1 at t1 z0 z1 ⊢
  go_upto_region 4 with (go_at_call 10; refine (hf _ t1).mono ?_; rintro e w2 ⟨i, j, f, rfl, t2, hF, hj⟩)
  have T2 : Turn (fun _ => False) w w2 := t1.trans t2 (fun _ _ x => x)
  have y0 := T2.cell ho (fun x => x)
  have him := hF.im
  have hcw := hc w2 T2 i him
  have i0 : (0 : Int) ≤ (i : Int) := by omega
  have i1 : (i : Int) ≤ (cC : Int) := by omega
  have HF : Hid (Found m bd ks (q1, q2) i j) := hF
  have hbi : bd i ≤ 100000 := by have := hF.le; have := HB.out; omega
  clear z0 z1 hf hc hF t2 t1
  go_wp2_with (go_at_call 11; refine hcw.mono ?_; rintro e w3 ⟨rfl, rfl⟩)
  go_ret
  exact ⟨bd i + j, by show Ending.returned (.int .i64 ((j : Int) + (bd i : Int))) = _; rw [show (j : Int) + (bd i : Int) = ((bd i + j : Nat) : Int) by omega], T2, HF.out.le, HF.out.lo, HF.out.hi⟩
end Go.Proofs.YbulkegkgGreat
