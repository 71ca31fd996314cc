import Derived.Test.YbulkegooRows
import Derived.Test.YbulkegooAid
import Derived.OpenShut
namespace Go.Proofs.Ybulkegoo
open Go.RowKit

theorem u64_six (raw : Int) : (IntKind.u64.wrap raw).tmod 6 = 0 ∨ (IntKind.u64.wrap raw).tmod 6 = 1 ∨ (IntKind.u64.wrap raw).tmod 6 = 2 ∨ (IntKind.u64.wrap raw).tmod 6 = 3 ∨ (IntKind.u64.wrap raw).tmod 6 = 4 ∨ (IntKind.u64.wrap raw).tmod 6 = 5 := by
  have h := bounds_u64 (wf_wrap .u64 raw)
  rw [Int.tmod_eq_emod_of_nonneg h.1]
  omega

set_option maxHeartbeats 1000000 in
theorem bcode_any (raw sel : Int) (w : World) (h1 : -9223372036854775808 ≤ raw) (h2 : raw ≤ 9223372036854775807) (s0 : 0 ≤ sel) (s1 : sel ≤ 255) :
    Calls Yba.prog 5 #[.int .i64 raw, .int .u8 sel] w fun e w' => (∃ code : Int, e = .returned (.int .i64 code) ∧ -9223372036854775808 ≤ code ∧ code ≤ 9223372036854775807) ∧ Below w.heap.size w w' := by
  by_cases c1 : sel % 4 = 1
  · have e1 : (sel % 4 == 1) = true := by simpa using c1
    go_enter Yba.func5, Yba.ntmps5
    go_wp2
    go_ret
    exact ⟨⟨_, rfl, bounds_i64 (wrap64_wf _)⟩, Below.refl _ _⟩
  · have e1 : (sel % 4 == 1) = false := by simpa using c1
    by_cases c2 : sel % 4 = 2
    · have e2 : (sel % 4 == 2) = true := by simpa using c2
      clear c1 c2
      go_enter Yba.func5, Yba.ntmps5
      go_wp2
      go_ret
      exact ⟨⟨_, rfl, bounds_i64 (wrap64_wf _)⟩, Below.refl _ _⟩
    · have e2 : (sel % 4 == 2) = false := by simpa using c2
      by_cases c3 : sel % 4 = 3
      · have e3 : (sel % 4 == 3) = true := by simpa using c3
        clear c1 c2 c3
        rcases u64_six raw with h | h | h | h | h | h
        all_goals
          go_enter Yba.func5, Yba.ntmps5
          go_wp2
          go_ret
          exact ⟨⟨_, rfl, by omega, by omega⟩, (Below.refl _ _).alloc (Nat.le_refl _) _⟩
      · have e3 : (sel % 4 == 3) = false := by simpa using c3
        clear c1 c2 c3
        go_enter Yba.func5, Yba.ntmps5
        go_wp2
        go_ret
        exact ⟨⟨_, rfl, h1, h2⟩, Below.refl _ _⟩

/-- The cells of a 'reading', of the stand-in coder. -/
def rdF (p : Value) (s : Int) (d : ByteArray) (f : Int) (u : Bool) : Nat → Value := fun j => if j = 0 then p else if j = 1 then .int .i64 s else if j = 2 then .string d else if j = 3 then .int .i64 f else .bool u
def coF (c : Int) (m : ByteArray) (a b : Int) : Nat → Value := fun j => if j = 0 then .int .i64 c else if j = 1 then .string m else if j = 2 then .int .i64 a else .int .i64 b
/-- What addStatus leaves. -/
structure Added (F C : Nat) (p : Value) (code : Int) (msg : ByteArray) (s : Int) (d : ByteArray) (f : Int) (u : Bool) (ne : Int) (w w' : World) : Prop where
  rd : w'.rowIs F 34 5 (rdF p s d f u)
  co : w'.rowIs C 37 4 (coF code msg 1 ne)
  turn : Turn (fun k => k = F ∨ k = C) w w'
theorem rd_put1 {w : World} {F : Nat} {p : Value} {s : Int} {d : ByteArray} {f : Int} {u : Bool} (h : w.rowIs F 34 5 (rdF p s d f u)) (x : Int) : (w.setCell ⟨F, 1, none⟩ (.int .i64 x)).rowIs F 34 5 (rdF p x d f u) :=
  row_put h 1 _ _ (fun j hj => by rcases (show j = 0 ∨ j = 1 ∨ j = 2 ∨ j = 3 ∨ j = 4 by omega) with rfl | rfl | rfl | rfl | rfl <;> rfl)
theorem rd_put2 {w : World} {F : Nat} {p : Value} {s : Int} {d : ByteArray} {f : Int} {u : Bool} (h : w.rowIs F 34 5 (rdF p s d f u)) (x : ByteArray) : (w.setCell ⟨F, 2, none⟩ (.string x)).rowIs F 34 5 (rdF p s x f u) :=
  row_put h 2 _ _ (fun j hj => by rcases (show j = 0 ∨ j = 1 ∨ j = 2 ∨ j = 3 ∨ j = 4 by omega) with rfl | rfl | rfl | rfl | rfl <;> rfl)
theorem rd_put3 {w : World} {F : Nat} {p : Value} {s : Int} {d : ByteArray} {f : Int} {u : Bool} (h : w.rowIs F 34 5 (rdF p s d f u)) (x : Int) : (w.setCell ⟨F, 3, none⟩ (.int .i64 x)).rowIs F 34 5 (rdF p s d x u) :=
  row_put h 3 _ _ (fun j hj => by rcases (show j = 0 ∨ j = 1 ∨ j = 2 ∨ j = 3 ∨ j = 4 by omega) with rfl | rfl | rfl | rfl | rfl <;> rfl)
theorem rd_put4 {w : World} {F : Nat} {p : Value} {s : Int} {d : ByteArray} {f : Int} {u : Bool} (h : w.rowIs F 34 5 (rdF p s d f u)) (x : Bool) : (w.setCell ⟨F, 4, none⟩ (.bool x)).rowIs F 34 5 (rdF p s d f x) :=
  row_put h 4 _ _ (fun j hj => by rcases (show j = 0 ∨ j = 1 ∨ j = 2 ∨ j = 3 ∨ j = 4 by omega) with rfl | rfl | rfl | rfl | rfl <;> rfl)
theorem co_put2 {w : World} {C : Nat} {c : Int} {m : ByteArray} {a b : Int} (h : w.rowIs C 37 4 (coF c m a b)) (x : Int) : (w.setCell ⟨C, 2, none⟩ (.int .i64 x)).rowIs C 37 4 (coF c m x b) :=
  row_put h 2 _ _ (fun j hj => by rcases (show j = 0 ∨ j = 1 ∨ j = 2 ∨ j = 3 by omega) with rfl | rfl | rfl | rfl <;> rfl)
theorem co_put3 {w : World} {C : Nat} {c : Int} {m : ByteArray} {a b : Int} (h : w.rowIs C 37 4 (coF c m a b)) (x : Int) : (w.setCell ⟨C, 3, none⟩ (.int .i64 x)).rowIs C 37 4 (coF c m a x) :=
  row_put h 3 _ _ (fun j hj => by rcases (show j = 0 ∨ j = 1 ∨ j = 2 ∨ j = 3 by omega) with rfl | rfl | rfl | rfl <;> rfl)

/-- StatusCode: counts, answers the code. -/
theorem status_any (C : Nat) (c : Int) (m : ByteArray) (b : Int) (w : World) (h : w.rowIs C 37 4 (coF c m 0 b)) :
    Calls Yba.prog 35 #[.pointer (some ⟨C, 0, none⟩)] w fun e w' => e = .returned (.int .i64 c) ∧ w' = w.setCell ⟨C, 2, none⟩ (.int .i64 1) := by
  have c0 : w.cell? ⟨C, 0, none⟩ = some (.int .i64 c) := h.cell (by omega)
  have c2 : w.cell? ⟨C, 2, none⟩ = some (.int .i64 0) := h.cell (by omega)
  have f2 := h.frozen 2
  go_enter Yba.func35, Yba.ntmps35
  go_wp2
  go_ret
  exact ⟨rfl, rfl⟩
/-- Error: counts, answers the text. -/
theorem error_any (C : Nat) (c : Int) (m : ByteArray) (a : Int) (w : World) (h : w.rowIs C 37 4 (coF c m a 0)) :
    Calls Yba.prog 34 #[.pointer (some ⟨C, 0, none⟩)] w fun e w' => e = .returned (.string m) ∧ w' = w.setCell ⟨C, 3, none⟩ (.int .i64 1) := by
  have c1 : w.cell? ⟨C, 1, none⟩ = some (.string m) := h.cell (by omega)
  have c3 : w.cell? ⟨C, 3, none⟩ = some (.int .i64 0) := h.cell (by omega)
  have f3 := h.frozen 3
  go_enter Yba.func34, Yba.ntmps34
  go_wp2
  go_ret
  exact ⟨rfl, rfl⟩
theorem method_status (a : Addr) (w : World) : (method 183 35 (.pointer (some a)) "StatusCode").run Yba.prog w = .ok (35, .pointer (some a)) w := by kernel_rfl
theorem method_error (a : Addr) (w : World) : (method 183 35 (.pointer (some a)) "Error").run Yba.prog w = .ok (34, .pointer (some a)) w := by kernel_rfl
/-- Behind StatusCode. -/
structure After1 (F C : Nat) (p : Value) (code : Int) (msg : ByteArray) (s : Int) (d : ByteArray) (f : Int) (u : Bool) (w w1 : World) : Prop where
  rd : w1.rowIs F 34 5 (rdF p s d f u)
  co : w1.rowIs C 37 4 (coF code msg 1 0)
  turn : Turn (fun k => k = F ∨ k = C) w w1
  k1 : w1.cell? ⟨F, 1, none⟩ = some (.int .i64 s)
  k3 : w1.cell? ⟨F, 3, none⟩ = some (.int .i64 f)
  k4 : w1.cell? ⟨F, 4, none⟩ = some (.bool u)
  z1 : w1.frozen? ⟨F, 1, none⟩ = false
  z3 : w1.frozen? ⟨F, 3, none⟩ = false
  z4 : w1.frozen? ⟨F, 4, none⟩ = false
theorem after1_mk {F C : Nat} {p : Value} {code : Int} {msg : ByteArray} {s : Int} {d : ByteArray} {f : Int} {u : Bool} {w : World} (fc : F ≠ C)
    (hF : w.rowIs F 34 5 (rdF p s d f u)) (hC : w.rowIs C 37 4 (coF code msg 0 0)) : After1 F C p code msg s d f u w (w.setCell ⟨C, 2, none⟩ (.int .i64 1)) :=
  have r := hF.setOther (a := ⟨C, 2, none⟩) fc (.int .i64 1)
  ⟨r, co_put2 hC 1, (Turn.refl (fun k => k = F ∨ k = C) w).setCell (p := ⟨C, 2, none⟩) (.inr (.inr rfl)) _, r.cell (by omega), r.cell (by omega), r.cell (by omega), r.frozen _, r.frozen _, r.frozen _⟩
theorem st_mono {C : Nat} {code : Int} {msg : ByteArray} {w : World} (hC : w.rowIs C 37 4 (coF code msg 0 0)) :
    Calls Yba.prog 35 #[.pointer (some ⟨C, 0, none⟩)] w fun e w' => e = .returned (.int .i64 code) ∧ w' = w.setCell ⟨C, 2, none⟩ (.int .i64 1) := status_any C code msg 0 w hC

set_option maxRecDepth 100000 in
set_option maxHeartbeats 400000 in
/-- 400 to 499, no 4xx status kept: kept, with the text. -/
theorem add_four (F C : Nat) (p : Value) (code : Int) (msg : ByteArray) (d : ByteArray) (f : Int) (u : Bool) (w : World) (fc : F ≠ C)
    (hF : w.rowIs F 34 5 (rdF p 0 d f u)) (hC : w.rowIs C 37 4 (coF code msg 0 0)) (h1 : 400 ≤ code) (h2 : code ≤ 499) :
    Calls Yba.prog 6 #[.pointer (some ⟨F, 0, none⟩), .iface 35 (.pointer (some ⟨C, 0, none⟩))] w fun e w' => e = .returned (.tuple #[]) ∧ Added F C p code msg code msg f u 1 w w' := by
  have hA := after1_mk fc hF hC
  have m1 := method_status
  have m2 := method_error
  have HC : Hid (w.rowIs C 37 4 (coF code msg 0 0)) := hC
  clear hF hC
  go_enter Yba.func6, Yba.ntmps6
  go_wp2_with (go_at_call 35; refine (st_mono HC.out).mono ?_; rintro e w1 ⟨rfl, hw1⟩; rw [← hw1] at hA; clear hw1; have k1 := hA.k1; have z1 := hA.z1)
  have k2 : (w1.setCell ⟨F, 1, none⟩ (.int .i64 code)).rowIs F 34 5 (rdF p code d f u) := rd_put1 hA.rd code
  have k3 : (w1.setCell ⟨F, 1, none⟩ (.int .i64 code)).rowIs C 37 4 (coF code msg 1 0) := hA.co.setOther (a := ⟨F, 1, none⟩) (Ne.symm fc) _
  have T2 : Turn (fun k => k = F ∨ k = C) w (w1.setCell ⟨F, 1, none⟩ (.int .i64 code)) := hA.turn.setCell (p := ⟨F, 1, none⟩) (.inr (.inl rfl)) _
  generalize w1.setCell ⟨F, 1, none⟩ (.int .i64 code) = w2 at k2 k3 T2 ⊢
  refine (error_any C code msg 1 w2 k3).mono ?_
  rintro e w3 ⟨rfl, hw3⟩
  have R3 : w3.rowIs F 34 5 (rdF p code d f u) := by rw [hw3]; exact k2.setOther (a := ⟨C, 3, none⟩) fc _
  have R4 : w3.rowIs C 37 4 (coF code msg 1 1) := by rw [hw3]; exact co_put3 k3 1
  have T3 : Turn (fun k => k = F ∨ k = C) w w3 := by rw [hw3]; exact T2.setCell (p := ⟨C, 3, none⟩) (.inr (.inr rfl)) _
  clear hw3 k2 k3 T2
  have c2 : w3.cell? ⟨F, 2, none⟩ = some (.string d) := R3.cell (by omega)
  have z2 := R3.frozen 2
  go_wp2
  go_end0
  exact ⟨rfl, rd_put2 R3 msg, R4.setOther (a := ⟨F, 2, none⟩) (Ne.symm fc) _, T3.setCell (p := ⟨F, 2, none⟩) (.inr (.inl rfl)) _⟩

set_option maxRecDepth 100000 in
set_option maxHeartbeats 400000 in
/-- 400 to 499, one kept before: nothing turns. -/
theorem add_four' (F C : Nat) (p : Value) (code : Int) (msg : ByteArray) (s : Int) (d : ByteArray) (f : Int) (u : Bool) (w : World) (fc : F ≠ C)
    (hF : w.rowIs F 34 5 (rdF p s d f u)) (hC : w.rowIs C 37 4 (coF code msg 0 0)) (h1 : 400 ≤ code) (h2 : code ≤ 499) (hs : (s == 0) = false) :
    Calls Yba.prog 6 #[.pointer (some ⟨F, 0, none⟩), .iface 35 (.pointer (some ⟨C, 0, none⟩))] w fun e w' => e = .returned (.tuple #[]) ∧ Added F C p code msg s d f u 0 w w' := by
  have hA := after1_mk fc hF hC
  have m1 := method_status
  have HC : Hid (w.rowIs C 37 4 (coF code msg 0 0)) := hC
  clear hF hC
  go_enter Yba.func6, Yba.ntmps6
  go_wp2_with (go_at_call 35; refine (st_mono HC.out).mono ?_; rintro e w1 ⟨rfl, hw1⟩; rw [← hw1] at hA; clear hw1; have k1 := hA.k1; have z1 := hA.z1)
  go_end0
  exact ⟨rfl, hA.rd, hA.co, hA.turn⟩

set_option maxRecDepth 100000 in
set_option maxHeartbeats 400000 in
/-- 500 to 599, no fault status kept: kept. -/
theorem add_five (F C : Nat) (p : Value) (code : Int) (msg : ByteArray) (s : Int) (d : ByteArray) (u : Bool) (w : World) (fc : F ≠ C)
    (hF : w.rowIs F 34 5 (rdF p s d 0 u)) (hC : w.rowIs C 37 4 (coF code msg 0 0)) (h1 : 500 ≤ code) (h2 : code ≤ 599) :
    Calls Yba.prog 6 #[.pointer (some ⟨F, 0, none⟩), .iface 35 (.pointer (some ⟨C, 0, none⟩))] w fun e w' => e = .returned (.tuple #[]) ∧ Added F C p code msg s d code u 0 w w' := by
  have hA := after1_mk fc hF hC
  have m1 := method_status
  have HC : Hid (w.rowIs C 37 4 (coF code msg 0 0)) := hC
  have d1 : decide (code ≤ (499 : Int)) = false := by simp; omega
  clear hF hC
  go_enter Yba.func6, Yba.ntmps6
  go_wp2_with (go_at_call 35; refine (st_mono HC.out).mono ?_; rintro e w1 ⟨rfl, hw1⟩; rw [← hw1] at hA; clear hw1; have k3 := hA.k3; have z3 := hA.z3)
  go_end0
  exact ⟨rfl, rd_put3 hA.rd code, hA.co.setOther (a := ⟨F, 3, none⟩) (Ne.symm fc) _, hA.turn.setCell (p := ⟨F, 3, none⟩) (.inr (.inl rfl)) _⟩

set_option maxRecDepth 100000 in
set_option maxHeartbeats 400000 in
theorem add_five' (F C : Nat) (p : Value) (code : Int) (msg : ByteArray) (s : Int) (d : ByteArray) (f : Int) (u : Bool) (w : World) (fc : F ≠ C)
    (hF : w.rowIs F 34 5 (rdF p s d f u)) (hC : w.rowIs C 37 4 (coF code msg 0 0)) (h1 : 500 ≤ code) (h2 : code ≤ 599) (hf : (f == 0) = false) :
    Calls Yba.prog 6 #[.pointer (some ⟨F, 0, none⟩), .iface 35 (.pointer (some ⟨C, 0, none⟩))] w fun e w' => e = .returned (.tuple #[]) ∧ Added F C p code msg s d f u 0 w w' := by
  have hA := after1_mk fc hF hC
  have m1 := method_status
  have HC : Hid (w.rowIs C 37 4 (coF code msg 0 0)) := hC
  have d1 : decide (code ≤ (499 : Int)) = false := by simp; omega
  clear hF hC
  go_enter Yba.func6, Yba.ntmps6
  go_wp2_with (go_at_call 35; refine (st_mono HC.out).mono ?_; rintro e w1 ⟨rfl, hw1⟩; rw [← hw1] at hA; clear hw1; have k3 := hA.k3; have z3 := hA.z3)
  go_end0
  exact ⟨rfl, hA.rd, hA.co, hA.turn⟩

set_option maxRecDepth 100000 in
set_option maxHeartbeats 400000 in
/-- Any other status. -/
theorem add_other (F C : Nat) (p : Value) (code : Int) (msg : ByteArray) (s : Int) (d : ByteArray) (f : Int) (u : Bool) (w : World) (fc : F ≠ C)
    (hF : w.rowIs F 34 5 (rdF p s d f u)) (hC : w.rowIs C 37 4 (coF code msg 0 0)) (h : code < 400 ∨ 599 < code) :
    Calls Yba.prog 6 #[.pointer (some ⟨F, 0, none⟩), .iface 35 (.pointer (some ⟨C, 0, none⟩))] w fun e w' => e = .returned (.tuple #[]) ∧ Added F C p code msg s d f true 0 w w' := by
  have hA := after1_mk fc hF hC
  have m1 := method_status
  have HC : Hid (w.rowIs C 37 4 (coF code msg 0 0)) := hC
  clear hF hC
  rcases h with h | h
  · have d1 : decide ((400 : Int) ≤ code) = false := by simp; omega
    have d2 : decide ((500 : Int) ≤ code) = false := by simp; omega
    go_enter Yba.func6, Yba.ntmps6
    go_wp2_with (go_at_call 35; refine (st_mono HC.out).mono ?_; rintro e w1 ⟨rfl, hw1⟩; rw [← hw1] at hA; clear hw1; have k4 := hA.k4; have z4 := hA.z4)
    go_end0
    exact ⟨rfl, rd_put4 hA.rd true, hA.co.setOther (a := ⟨F, 4, none⟩) (Ne.symm fc) _, hA.turn.setCell (p := ⟨F, 4, none⟩) (.inr (.inl rfl)) _⟩
  · have d1 : decide (code ≤ (499 : Int)) = false := by simp; omega
    have d2 : decide (code ≤ (599 : Int)) = false := by simp; omega
    go_enter Yba.func6, Yba.ntmps6
    go_wp2_with (go_at_call 35; refine (st_mono HC.out).mono ?_; rintro e w1 ⟨rfl, hw1⟩; rw [← hw1] at hA; clear hw1; have k4 := hA.k4; have z4 := hA.z4)
    go_end0
    exact ⟨rfl, rd_put4 hA.rd true, hA.co.setOther (a := ⟨F, 4, none⟩) (Ne.symm fc) _, hA.turn.setCell (p := ⟨F, 4, none⟩) (.inr (.inl rfl)) _⟩
end Go.Proofs.Ybulkegoo
