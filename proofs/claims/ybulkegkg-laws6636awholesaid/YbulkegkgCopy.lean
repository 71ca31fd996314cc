import Derived.Laws.CopyOwn
import Derived.Deep.OwnRows
import Derived.WalkKit
namespace Go.Proofs.Ybulkegkg
open Go Go.RowKit

/-- 'copy(dst, src)' between two slices of one length, dst a row of the call's own ('rowIs'). -/
theorem wpList_copy_rows {P : Program} {w : World} {ops : Array Oper} {rest : List Oper} {o : Oper} {a : Act} {Q : Exit → Act → World → Prop} (hgd : o.guard = none) (d s : Operand) (dT sT : TypeId)
    (ho : o.op = .call { callee := .builtin .copy, args := #[d, s], argTypes := #[dT, sT] }) (elem : TypeId) (hu : P.underlying dT = some (.slice elem)) (hsz : (P.info? elem).map (·.size) = some 1)
    (g n dCap : Nat) (sp : Option Addr) (sCap : Nat) (hd : a.eval d = .slice (some ⟨g, 0, none⟩) n dCap) (hs : a.eval s = .slice sp n sCap)
    (t : TypeId) (f h : Nat → Value) (hrow : w.rowIs g t n f)
    (hsrc : 0 < n → ∃ ad, sp = some ad ∧ ∀ j, j < n → w.cell? (ad.add j) = some (h j)) (h1 : ∀ j, j < n → (h j).oneCell' = true) (B : Nat) (w0 : World) (hb : Below B w0 w) (hBg : B ≤ g)
    (hK : ∀ w', Hid (w'.rowIs g t n h) → Below B w0 w' → wpList P ops Q rest (a.put o.dst (goInt n)) w') :
    wpList P ops Q (o :: rest) a w := by
  obtain ⟨c, hc, hcn, hcf⟩ := hrow
  obtain ⟨cs, hcs⟩ : ∃ cs, cs = (List.range n).map h := ⟨_, rfl⟩
  have hlen : cs.length = n := by simp [hcs]
  have hget : ∀ j, j < n → cs[j]? = some (h j) := by
    intro j hj
    rw [hcs, List.getElem?_map, List.getElem?_range hj]
    rfl
  refine wpList_copy_splice hgd d s dT sT ho elem hu hsz _ _ n dCap n sCap hd hs g 0 c.toList t (by simpa using hc) cs (by simp [hlen]) ?_ (by simp [hlen, hcn]) ?_ B w0 hb hBg ?_
  · intro h0
    obtain ⟨ad, ha, hcell⟩ := hsrc (by omega)
    refine ⟨rfl, ad, ha, ?_⟩
    intro j v hj
    have hjn : j < n := by
      have := List.getElem?_eq_some_iff.1 hj
      obtain ⟨hh, _⟩ := this
      omega
    rw [hget j hjn] at hj
    rw [hcell j hjn, hj]
  · intro v hv
    rw [hcs] at hv
    simp only [List.mem_map, List.mem_range] at hv
    obtain ⟨j, hj, rfl⟩ := hv
    exact h1 j hj
  · intro w' hw' hb'
    rw [hlen]
    refine hK w' ?_ hb'
    refine ⟨_, hw'.out, ?_, ?_⟩
    · simp [splice, hlen, hcn]
    · intro i hi
      have : splice c.toList 0 cs = cs := by
        simp only [splice, List.take_zero, List.nil_append, Nat.zero_add]
        rw [List.drop_of_length_le (by simp [hcn, hlen])]
        simp
      rw [this]
      simpa using hget i hi
end Go.Proofs.Ybulkegkg
