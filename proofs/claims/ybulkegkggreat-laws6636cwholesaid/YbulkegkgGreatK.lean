import Derived.Test.YbulkegkgGreatShelf
import Derived.Test.YbulkegkgGreatAid
import Derived.Test.YbulkegkgGreatSl
import Derived.Sort.Walk0
import Derived.WalkLawsBesides
import Derived.Deep.CutRange
namespace Go.Proofs.YbulkegkgGreat
open Go.RowKit Go.Sort

/-- An objectKey: its namespace and its name. -/
abbrev K := ByteArray × ByteArray
def slt (a b : ByteArray) : Bool := Op.bytesLess a.toList b.toList
def klt (a b : K) : Bool := if a.1 = b.1 then slt a.2 b.2 else slt a.1 b.1
theorem slt_iff (a b : ByteArray) : slt a b = true ↔ a.data.toList < b.data.toList := by
  unfold slt
  rw [bytesLess_eq, ByteArray.toList_eq, ByteArray.toList_eq]
  simp
theorem slt_irrefl (a : ByteArray) : slt a a = false := by
  rw [← Bool.not_eq_true, slt_iff]
  exact List.lt_irrefl _
theorem slt_trans {a b c : ByteArray} (h1 : slt a b = true) (h2 : slt b c = true) : slt a c = true := by
  rw [slt_iff] at *
  exact List.lt_trans h1 h2
theorem slt_tri {a b : ByteArray} (h1 : slt a b = false) (h2 : slt b a = false) : a = b := by
  rw [← Bool.not_eq_true, slt_iff] at *
  have h3 := List.not_lt.1 h1
  have h4 := List.not_lt.1 h2
  exact ByteArray.ext (Array.toList_inj.1 (List.le_antisymm h4 h3))
theorem klt_irrefl (a : K) : klt a a = false := by unfold klt; rw [if_pos rfl]; exact slt_irrefl _
theorem klt_trans {a b c : K} (h1 : klt a b = true) (h2 : klt b c = true) : klt a c = true := by
  unfold klt at *
  by_cases e1 : a.1 = b.1
  · by_cases e2 : b.1 = c.1
    · rw [if_pos e1] at h1
      rw [if_pos e2] at h2
      rw [if_pos (e1.trans e2)]
      exact slt_trans h1 h2
    · rw [if_neg e2] at h2
      rw [e1, if_neg e2]
      exact h2
  · rw [if_neg e1] at h1
    by_cases e2 : b.1 = c.1
    · rw [← e2, if_neg e1]
      exact h1
    · rw [if_neg e2] at h2
      have h3 := slt_trans h1 h2
      by_cases e3 : a.1 = c.1
      · rw [e3, slt_irrefl] at h3
        cases h3
      · rw [if_neg e3]
        exact h3
theorem klt_tri {a b : K} (h1 : klt a b = false) (h2 : klt b a = false) : a = b := by
  unfold klt at *
  by_cases e1 : a.1 = b.1
  · rw [if_pos e1] at h1
    rw [if_pos e1.symm] at h2
    exact Prod.ext e1 (slt_tri h1 h2)
  · rw [if_neg e1] at h1
    rw [if_neg (fun e => e1 e.symm)] at h2
    exact absurd (slt_tri h1 h2) e1
/-- not less, twice. -/
theorem klt_ntrans {a b c : K} (h1 : klt a b = false) (h2 : klt b c = false) : klt a c = false := by
  cases h : klt a c with
  | false => rfl
  | true =>
    cases h3 : klt b a with
    | true => rw [klt_trans h3 h] at h2; cases h2
    | false =>
      have := klt_tri h1 h3
      subst this
      rw [h] at h2
      cases h2
/-- The law's own comparison. -/
def kcf (a b : K) : Int := if klt a b = true then -1 else if klt b a = true then 1 else 0
theorem lt_kcf (a b : K) : ltOf kcf a b = klt a b := by
  unfold ltOf kcf
  cases h1 : klt a b <;> cases h2 : klt b a <;> simp
theorem swo : SWO (ltOf kcf) where
  irrefl x := by rw [lt_kcf]; exact klt_irrefl x
  trans x y z h1 h2 := by rw [lt_kcf] at *; exact klt_trans h1 h2
  ntrans x y z h1 h2 := by rw [lt_kcf] at *; exact klt_ntrans h1 h2

def kv (a : K) : Value := .agg #[.string a.1, .string a.2]
def kob (a : K) : Obj := .cells #[.string a.1, .string a.2] 28
theorem same_str {a b : ByteArray} (h : a = b) : (a.toList == b.toList) = true := by rw [h]; exact beq_self_eq_true _
theorem other_str {a b : ByteArray} (h : a ≠ b) : (a.toList == b.toList) = false := by
  rw [beq_eq_false_iff_ne]
  intro e
  rw [ByteArray.toList_eq, ByteArray.toList_eq] at e
  exact h (ByteArray.ext (Array.toList_inj.1 e))

set_option maxHeartbeats 1000000 in
set_option maxRecDepth 100000 in
theorem less_any (a b : K) (w : World) : Calls Ybaz.prog 9 #[kv a, kv b] w fun e w' => e = .returned (.bool (klt a b)) ∧ w' = (w.alloc (kob a)).alloc (kob b) := by
  obtain ⟨a1, a2⟩ := a
  obtain ⟨b1, b2⟩ := b
  unfold kv kob
  by_cases h : a1 = b1
  · subst h
    have h' := same_str (rfl : a1 = a1)
    go_enter Ybaz.func9, Ybaz.ntmps9
    go_wp2
    go_ret
    exact ⟨by unfold klt; rw [if_pos rfl]; rfl, rfl⟩
  · have h' := other_str h
    go_enter Ybaz.func9, Ybaz.ntmps9
    go_wp2
    go_ret
    exact ⟨by unfold klt; rw [if_neg h]; rfl, rfl⟩

set_option maxHeartbeats 1000000 in
set_option maxRecDepth 100000 in
theorem cmp_any (a b : K) (w : World) : Calls Ybaz.prog 6 #[kv a, kv b] w fun e w' => e = .returned (.int .i64 (kcf a b)) ∧ ∃ os', w' = grow w os' := by
  have hl := fun W => less_any a b W
  have hl' := fun W => less_any b a W
  unfold kv at hl hl' ⊢
  cases h1 : klt a b with
  | true =>
    rw [h1] at hl
    go_enter Ybaz.func6, Ybaz.ntmps6
    go_wp2_with (go_at_call 9; refine (hl _).mono ?_; rintro e w' ⟨rfl, rfl⟩)
    go_ret
    exact ⟨by unfold kcf; rw [if_pos h1]; rfl, _, by rw [alloc_eq_grow, alloc_eq_grow, alloc_eq_grow, alloc_eq_grow, grow_grow, grow_grow, grow_grow]⟩
  | false =>
    rw [h1] at hl
    cases h2 : klt b a with
    | true =>
      rw [h2] at hl'
      have tok : True := trivial
      go_enter Ybaz.func6, Ybaz.ntmps6
      go_upto_region 3 with (go_at_call 9; refine (hl _).mono ?_; rintro e w' ⟨rfl, rfl⟩)
      go_wp2_with (go_at_call 9; refine (hl' _).mono ?_; rintro e w' ⟨rfl, rfl⟩)
      go_ret
      exact ⟨by unfold kcf; rw [if_neg (by rw [h1]; simp), if_pos h2]; rfl, _, by rw [alloc_eq_grow, alloc_eq_grow, alloc_eq_grow, alloc_eq_grow, alloc_eq_grow, alloc_eq_grow, grow_grow, grow_grow, grow_grow, grow_grow, grow_grow]⟩
    | false =>
      rw [h2] at hl'
      go_enter Ybaz.func6, Ybaz.ntmps6
      go_upto_region 3 with (go_at_call 9; refine (hl _).mono ?_; rintro e w' ⟨rfl, rfl⟩)
      go_wp2_with (go_at_call 9; refine (hl' _).mono ?_; rintro e w' ⟨rfl, rfl⟩)
      go_ret
      exact ⟨by unfold kcf; rw [if_neg (by rw [h1]; simp), if_neg (by rw [h2]; simp)]; rfl, _, by rw [alloc_eq_grow, alloc_eq_grow, alloc_eq_grow, alloc_eq_grow, alloc_eq_grow, alloc_eq_grow, grow_grow, grow_grow, grow_grow, grow_grow, grow_grow]⟩

theorem cmpB : ∀ (x y : List UInt8), (Lib.compareBytes x y < 0 ↔ x < y) ∧ (Lib.compareBytes x y = 0 ↔ x = y)
  | [], [] => by simp [Lib.compareBytes]
  | [], _ :: _ => by simp [Lib.compareBytes]
  | _ :: _, [] => by simp [Lib.compareBytes]
  | a :: x, b :: y => by
    obtain ⟨h1, h2⟩ := cmpB x y
    rw [Lib.compareBytes]
    by_cases e1 : a < b
    · rw [if_pos e1]
      have hne : a ≠ b := fun e => by rw [e] at e1; exact absurd e1 (UInt8.lt_irrefl _)
      simp [List.cons_lt_cons_iff, e1, hne]
    · rw [if_neg e1]
      by_cases e2 : b < a
      · rw [if_pos e2]
        have hne : a ≠ b := fun e => by rw [e] at e2; exact absurd e2 (UInt8.lt_irrefl _)
        simp [List.cons_lt_cons_iff, e1, hne]
      · rw [if_neg e2]
        have he : a = b := UInt8.le_antisymm (UInt8.not_lt.1 e2) (UInt8.not_lt.1 e1)
        subst he
        simp [h1, h2]
/-- compareKeys. -/
def kcmp (a b : K) : Int := if Lib.compareBytes a.1.data.toList b.1.data.toList = 0 then Lib.compareBytes a.2.data.toList b.2.data.toList else Lib.compareBytes a.1.data.toList b.1.data.toList
theorem kcmp_neg (a b : K) : kcmp a b < 0 ↔ klt a b = true := by
  unfold kcmp klt
  by_cases h : a.1 = b.1
  · rw [if_pos ((cmpB _ _).2.2 (by rw [h])), if_pos h, (cmpB _ _).1, slt_iff]
  · rw [if_neg (fun e => h (ByteArray.ext (Array.toList_inj.1 ((cmpB _ _).2.1 e)))), if_neg h, (cmpB _ _).1, slt_iff]

set_option maxHeartbeats 1000000 in
set_option maxRecDepth 100000 in
theorem compareKeys_any (a b : K) (w : World) : Calls Ybaz.prog 17 #[kv a, kv b] w fun e w' => e = .returned (.int .i64 (kcmp a b)) ∧ Turn (fun _ => False) w w' := by
  obtain ⟨a1, a2⟩ := a
  obtain ⟨b1, b2⟩ := b
  have h1 := fun W => Ybaz.strings_Compare a1 b1 W
  have h2 := fun W => Ybaz.strings_Compare a2 b2 W
  unfold kcmp kv
  generalize Lib.compareBytes a1.data.toList b1.data.toList = c1 at h1 ⊢
  generalize Lib.compareBytes a2.data.toList b2.data.toList = c2 at h2 ⊢
  by_cases h : c1 = 0
  · subst h
    go_enter Ybaz.func17, Ybaz.ntmps17
    go_upto_region 2 with (go_at_call 30; refine (h1 _).mono ?_; rintro e w' ⟨rfl, rfl⟩)
    go_wp2_with (go_at_call 30; refine (h2 _).mono ?_; rintro e w' ⟨rfl, rfl⟩)
    go_ret
    exact ⟨rfl, ((Turn.refl _ _).alloc _).alloc _⟩
  · have h' : (c1 == 0) = false := by simpa using h
    go_enter Ybaz.func17, Ybaz.ntmps17
    go_wp2_with (go_at_call 30; refine (h1 _).mono ?_; rintro e w' ⟨rfl, rfl⟩)
    go_ret
    exact ⟨rfl, ((Turn.refl _ _).alloc _).alloc _⟩
end Go.Proofs.YbulkegkgGreat
