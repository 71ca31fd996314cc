/-
  No cell of these rows narrows 'for every input' (looked for: loops, veiled, ifaces, maps, wideKeys, modest, calm, conditions, laid).
  DERIVED. THE GIVEN ROWS OF THIS SEAT. 2 by the template 'for every input the law returns true; each argument reads behind the call as it read before'; 0 by the template 'total and deterministic' (their statements: YbulkegooTotals.lean).
  GIVEN WITH THE SEED: the statements are not yours to turn. If you find one false, say at which input.
  Laid BY PROGRAM, IN A SANDBOX (cutbox-rows.mjs): the forced cells as the released guide's own fill.sh prints them over the translation 86dc9fe14cf42c98… (all of the seat's roots in one cut). By AI agents, Wed Nov 11 2026. No macro, syntax, notation, axiom, sorry.
-/
import Derived.Test.YbulkegooChecked
import GoSem.Claim
import GoSem.ClaimJoined
import GoSem.ClaimMapViews
import Derived.JoinedTies
import Derived.KernelRfl
namespace Go.Proofs.Ybulkegoo
/- THE CELL 'sum', in the pinned program and in every row, IS THE sha256 OF THE DUMP (.gsa) THAT YbulkegooProg.lean LOADS. Nothing in Lean hashes anything: it is a label: what it is worth is what the hold of that sum in a sandbox is worth. -/
noncomputable def Yba.pinned : Pinned := { name := "ybulkegoo", sum := "86dc9fe14cf42c98a339af007c9d8d839f7baa9243de4699b1f3f7b878c77368", checked := Yba.checked }
namespace Rows
def none {H : Type} : Left H := { results := [], args := [] }

/-- 'derrs.LawS6644BWhole': WHATEVER THE INPUT: true; the input reads as it did. -/
def lawS6644BWholeSpec : ChangeSpec := { name := "lawS6644BWhole", fn := fun _ => fun
  | [d1, d2, d3, d4, d5, d6, d7, d8] => { results := [.lit (.bool true)], args := [d1, d2, d3, d4, d5, d6, d7, d8] }
  | _ => none }
def lawS6644BWholeRow : OpenClaim := { program := "ybulkegoo", sum := "86dc9fe14cf42c98a339af007c9d8d839f7baa9243de4699b1f3f7b878c77368", func := "example.com/derrs/derrs.LawS6644BWhole", spec := "lawS6644BWhole", unfollowed := true, recurses := true, apart := false }
def LawS6644BWholeSaid : Prop := lawS6644BWholeRow.holds Yba.pinned (OpenSpec.ofChange lawS6644BWholeSpec)

/-- ITS FALSE NEIGHBOUR: 'it returns false'. Refute it at one input. -/
def lawS6644BWholeWrong : ChangeSpec := { name := "lawS6644BWhole", fn := fun _ => fun
  | [d1, d2, d3, d4, d5, d6, d7, d8] => { results := [.lit (.bool false)], args := [d1, d2, d3, d4, d5, d6, d7, d8] }
  | _ => none }
def LawS6644BWholeWrongFalsely : Prop := lawS6644BWholeRow.holds Yba.pinned (OpenSpec.ofChange lawS6644BWholeWrong)

/-- 'derrs.LawS6644CWhole': WHATEVER THE INPUT: true; the input reads as it did. -/
def lawS6644CWholeSpec : ChangeSpec := { name := "lawS6644CWhole", fn := fun _ => fun
  | [d1, d2, d3, d4, d5] => { results := [.lit (.bool true)], args := [d1, d2, d3, d4, d5] }
  | _ => none }
def lawS6644CWholeRow : OpenClaim := { program := "ybulkegoo", sum := "86dc9fe14cf42c98a339af007c9d8d839f7baa9243de4699b1f3f7b878c77368", func := "example.com/derrs/derrs.LawS6644CWhole", spec := "lawS6644CWhole", apart := false }
def LawS6644CWholeSaid : Prop := lawS6644CWholeRow.holds Yba.pinned (OpenSpec.ofChange lawS6644CWholeSpec)

/-- ITS FALSE NEIGHBOUR: 'it returns false'. Refute it at one input. -/
def lawS6644CWholeWrong : ChangeSpec := { name := "lawS6644CWhole", fn := fun _ => fun
  | [d1, d2, d3, d4, d5] => { results := [.lit (.bool false)], args := [d1, d2, d3, d4, d5] }
  | _ => none }
def LawS6644CWholeWrongFalsely : Prop := lawS6644CWholeRow.holds Yba.pinned (OpenSpec.ofChange lawS6644CWholeWrong)

end Rows
end Go.Proofs.Ybulkegoo
