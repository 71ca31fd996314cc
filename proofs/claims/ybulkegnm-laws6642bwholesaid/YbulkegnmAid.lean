import Derived.WalkKit
import Derived.WalkSpells
import Derived.WalkSmall
import Derived.Below
import Derived.Deep.OwnRows
import Derived.Deep.AppendLies
import Derived.Deep.LoopGhost
import Derived.Deep.DeepCutAuto
import Derived.Deep.CutBlock
import Derived.Deep.QuietTactic
import Derived.BigQuiet
import Derived.Maps.RangeWalk
import Derived.Laws.CopyOwn
import Derived.Laws.Tables
import Derived.Deep.RegionHeld3
import Derived.Deep.DrawnRows
namespace Go.Proofs.Ybulkegnm
open Go Go.RowKit

theorem ret_bool {a b : Bool} (h : a = b) : Ending.returned (.bool a) = .returned (.bool b) := by rw [h]
theorem ret_int {k : IntKind} {a b : Int} (h : a = b) : Ending.returned (.int k a) = .returned (.int k b) := by rw [h]
theorem val_int {k : IntKind} {a b : Int} (h : a = b) : Value.int k a = .int k b := by rw [h]
theorem below_drewN {B : Nat} {a w : World} (h : Below B a w) (n : Nat) : Below B a (w.drewN n) := h.trans ⟨rfl, rfl, rfl, Nat.le_refl _, fun _ _ => rfl⟩
theorem cell_below {w : World} {a : Addr} {v : Value} (h : w.cell? a = some v) : a.block < w.heap.size := by
  rcases Nat.lt_or_ge a.block w.heap.size with h' | h'
  · exact h'
  · simp [World.cell?, Array.getElem?_eq_none h'] at h
theorem u8b (x : UInt8) : 0 ≤ (x.toNat : Int) ∧ (x.toNat : Int) ≤ 255 := by
  have := x.toNat_lt
  omega

/-- FROM w0 TO w: of the blocks that lay in w0 only those of A may have turned; the streams are as they were; no block has gone. -/
structure Turn (A : Nat → Prop) (w0 w : World) : Prop where
  os : w.os = w0.os
  tape : w.tape = w0.tape
  output : w.output = w0.output
  size : w0.heap.size ≤ w.heap.size
  block : ∀ k, k < w0.heap.size → ¬ A k → w.heap[k]? = w0.heap[k]?

namespace Turn
variable {A : Nat → Prop} {w0 w w' : World}
theorem refl (A : Nat → Prop) (w : World) : Turn A w w := ⟨rfl, rfl, rfl, Nat.le_refl _, fun _ _ _ => rfl⟩
theorem trans {B : Nat → Prop} (h : Turn A w0 w) (k : Turn B w w') (hB : ∀ i, i < w0.heap.size → B i → A i) : Turn A w0 w' :=
  ⟨k.os.trans h.os, k.tape.trans h.tape, k.output.trans h.output, Nat.le_trans h.size k.size, fun i hi ha => (k.block i (Nat.lt_of_lt_of_le hi h.size) (fun hb => ha (hB i hi hb))).trans (h.block i hi ha)⟩
theorem mono {B : Nat → Prop} (h : Turn A w0 w) (hB : ∀ i, i < w0.heap.size → A i → B i) : Turn B w0 w := ⟨h.os, h.tape, h.output, h.size, fun i hi hb => h.block i hi (fun ha => hb (hB i hi ha))⟩
theorem drew (h : Turn A w0 w) : Turn A w0 w.drew := ⟨h.os, h.tape, h.output, h.size, h.block⟩
theorem drewN (h : Turn A w0 w) (n : Nat) : Turn A w0 (w.drewN n) := ⟨h.os, h.tape, h.output, h.size, h.block⟩
theorem alloc (h : Turn A w0 w) (o : Obj) : Turn A w0 (w.alloc o) :=
  ⟨h.os, h.tape, h.output, by have := h.size; simp; omega, fun k hk ha => (Below.heap_alloc _ _ _ (Nat.lt_of_lt_of_le hk h.size)).trans (h.block k hk ha)⟩
theorem setCell (h : Turn A w0 w) {p : Addr} (hp : w0.heap.size ≤ p.block ∨ A p.block) (u : Value) : Turn A w0 (w.setCell p u) :=
  ⟨h.os, h.tape, h.output, by have := h.size; simpa [World.setCell] using this, fun k hk ha => (Below.heap_setCell _ _ _ _ (fun e => by subst e; rcases hp with h1 | h1; omega; exact ha h1)).trans (h.block k hk ha)⟩
theorem setRow (h : Turn A w0 w) {g : Nat} (hp : w0.heap.size ≤ g ∨ A g) (cs : Array Value) : Turn A w0 (w.setRow g cs) :=
  ⟨h.os, h.tape, h.output, by have := h.size; simpa using this, fun k hk ha => (setRow_other _ _ _ _ (fun e => by subst e; rcases hp with h1 | h1; omega; exact ha h1)).trans (h.block k hk ha)⟩
theorem grown {row : Option Nat} (h : Turn A w0 w) (hg : w.grownBy w' row) (hr : ∀ k, row = some k → w0.heap.size ≤ k ∨ A k) : Turn A w0 w' :=
  ⟨hg.os.trans h.os, hg.tape.trans h.tape, hg.output.trans h.output, Nat.le_trans h.size hg.size, fun k hk ha => (hg.block k (Nat.lt_of_lt_of_le hk h.size) (fun e => by rcases hr k e.symm with h1 | h1; omega; exact ha h1)).trans (h.block k hk ha)⟩
theorem below {B : Nat} (h : Turn A w0 w) (hB : B ≤ w0.heap.size) (hA : ∀ k, A k → B ≤ k) : Below B w0 w := ⟨h.os, h.tape, h.output, h.size, fun k hk => h.block k (Nat.lt_of_lt_of_le hk hB) (fun ha => by have := hA k ha; omega)⟩
theorem ofBelow (h : Below w0.heap.size w0 w) : Turn A w0 w := ⟨h.os, h.tape, h.output, h.size, fun k hk _ => h.block k hk⟩
theorem row {b : Nat} {t : TypeId} {n : Nat} {f : Nat → Value} (h : Turn A w0 w) (hr : w0.rowIs b t n f) (ha : ¬ A b) : w.rowIs b t n f := hr.of_block (h.block b hr.lt ha)
theorem cell (h : Turn A w0 w) {p : Addr} {v : Value} (hc : w0.cell? p = some v) (ha : ¬ A p.block) : w.cell? p = some v := (World.cell?_of_block (h.block p.block (cell_below hc) ha)).trans hc
theorem frozen (h : Turn A w0 w) {p : Addr} (hl : p.block < w0.heap.size) (ha : ¬ A p.block) : w.frozen? p = w0.frozen? p := World.frozen?_of_block (h.block p.block hl ha)
end Turn

theorem ofBelow_grown {w w' : World} (h : Below w.heap.size w w') : w.grownBy w' none := ⟨h.os, h.tape, h.output, h.size, fun k hk _ => h.block k hk⟩

/-- A row out of a block that is known whole. -/
theorem row_of_block {w : World} {b : Nat} {t : TypeId} {c : Array Value} (h : w.heap[b]? = some (.cells c t (0, 0))) (f : Nat → Value) (hf : ∀ i, i < c.size → c[i]? = some (f i)) : w.rowIs b t c.size f := ⟨c, h, rfl, hf⟩
/-- A store into a row whose new content is said. -/
theorem row_put {w : World} {b : Nat} {t : TypeId} {n : Nat} {f : Nat → Value} (h : w.rowIs b t n f) (i : Nat) (v : Value) (g : Nat → Value) (hg : ∀ j, j < n → g j = if j = i then v else f j) : (w.setCell ⟨b, i, none⟩ v).rowIs b t n g :=
  (h.set i v).congr (fun j hj => (hg j hj).symm)
/-- The whole row's array. -/
theorem row_arr {w : World} {b : Nat} {t : TypeId} {n : Nat} {f : Nat → Value} (h : w.rowIs b t n f) : w.heap[b]? = some (.cells ((List.range n).map f).toArray t (0, 0)) := by
  obtain ⟨c, hc, hn, hf⟩ := h
  have : c = ((List.range n).map f).toArray := by
    apply Array.ext_getElem?
    intro i
    by_cases hi : i < n
    · rw [hf i hi]
      simp [hi]
    · rw [Array.getElem?_eq_none (by omega)]
      simp [hi]
  rw [← this]
  exact hc

/-- 'copy(dst, src)' between two slices of one length, dst a row of the call's own ('rowIs'). -/
theorem wpList_copy_rows {P : Program} {w : World} {ops : Array Oper} {rest : List Oper} {o : Oper} {a : Act} {Q : Exit → Act → World → Prop} (hgd : o.guard = none) (d s : Operand) (dT sT : TypeId)
    (ho : o.op = .call { callee := .builtin .copy, args := #[d, s], argTypes := #[dT, sT] }) (elem : TypeId) (hu : P.underlying dT = some (.slice elem)) (hsz : (P.info? elem).map (·.size) = some 1)
    (g n dCap : Nat) (sp : Option Addr) (sCap : Nat) (hd : a.eval d = .slice (some ⟨g, 0, none⟩) n dCap) (hs : a.eval s = .slice sp n sCap)
    (t : TypeId) (f h : Nat → Value) (hrow : w.rowIs g t n f)
    (hsrc : 0 < n → ∃ ad, sp = some ad ∧ ∀ j, j < n → w.cell? (ad.add j) = some (h j)) (h1 : ∀ j, j < n → (h j).oneCell' = true) (B : Nat) (w0 : World) (hb : Below B w0 w) (hBg : B ≤ g)
    (hK : ∀ w', Hid (w'.rowIs g t n h) → Below B w0 w' → wpList P ops Q rest (a.put o.dst (goInt n)) w') :
    wpList P ops Q (o :: rest) a w := by
  obtain ⟨c, hc, hcn, hcf⟩ := hrow
  obtain ⟨cs, hcs⟩ : ∃ cs, cs = (List.range n).map h := ⟨_, rfl⟩
  have hlen : cs.length = n := by simp [hcs]
  have hget : ∀ j, j < n → cs[j]? = some (h j) := by
    intro j hj
    rw [hcs, List.getElem?_map, List.getElem?_range hj]
    rfl
  refine wpList_copy_splice hgd d s dT sT ho elem hu hsz _ _ n dCap n sCap hd hs g 0 c.toList t (by simpa using hc) cs (by simp [hlen]) ?_ (by simp [hlen, hcn]) ?_ B w0 hb hBg ?_
  · intro h0
    obtain ⟨ad, ha, hcell⟩ := hsrc (by omega)
    refine ⟨rfl, ad, ha, ?_⟩
    intro j v hj
    have hjn : j < n := by
      have := List.getElem?_eq_some_iff.1 hj
      obtain ⟨hh, _⟩ := this
      omega
    rw [hget j hjn] at hj
    rw [hcell j hjn, hj]
  · intro v hv
    rw [hcs] at hv
    simp only [List.mem_map, List.mem_range] at hv
    obtain ⟨j, hj, rfl⟩ := hv
    exact h1 j hj
  · intro w' hw' hb'
    rw [hlen]
    refine hK w' ?_ hb'
    refine ⟨_, hw'.out, ?_, ?_⟩
    · simp [splice, hlen, hcn]
    · intro i hi
      have : splice c.toList 0 cs = cs := by
        simp only [splice, List.take_zero, List.nil_append, Nat.zero_add]
        rw [List.drop_of_length_le (by simp [hcn, hlen])]
        simp
      rw [this]
      simpa using hget i hi
end Go.Proofs.Ybulkegnm
