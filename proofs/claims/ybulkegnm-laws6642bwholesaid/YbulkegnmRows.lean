/-
  No cell of these rows narrows 'for every input' (looked for: loops, veiled, ifaces, maps, wideKeys, modest, calm, conditions, laid).
  DERIVED. THE GIVEN ROWS OF THIS SEAT. 1 by the template 'for every input the law returns true; each argument reads behind the call as it read before'; 0 by the template 'total and deterministic' (their statements: YbulkegnmTotals.lean).
  GIVEN WITH THE SEED: the statements are not yours to turn. If you find one false, say at which input.
  Laid BY PROGRAM, IN A SANDBOX (cutbox-rows.mjs): the forced cells as the released guide's own fill.sh prints them over the translation 176ab1c809382089… (all of the seat's roots in one cut). By AI agents, Wed Nov 11 2026. No macro, syntax, notation, axiom, sorry.
-/
import Derived.Test.YbulkegnmChecked
import GoSem.Claim
import GoSem.ClaimJoined
import GoSem.ClaimMapViews
import Derived.JoinedTies
import Derived.KernelRfl
namespace Go.Proofs.Ybulkegnm
/- THE CELL 'sum', in the pinned program and in every row, IS THE sha256 OF THE DUMP (.gsa) THAT YbulkegnmProg.lean LOADS. Nothing in Lean hashes anything: it is a label: what it is worth is what the hold of that sum in a sandbox is worth. -/
noncomputable def Yba.pinned : Pinned := { name := "ybulkegnm", sum := "176ab1c809382089bcf606d093f90973e88d1d162ebc43c072dbd8664c951f4c", checked := Yba.checked }
namespace Rows
def none {H : Type} : Left H := { results := [], args := [] }

/-- 'serialgraph.LawS6642BWhole': WHATEVER THE INPUT: true; the input reads as it did. -/
def lawS6642BWholeSpec : ChangeSpec := { name := "lawS6642BWhole", fn := fun _ => fun
  | [d1, d2, d3] => { results := [.lit (.bool true)], args := [d1, d2, d3] }
  | _ => none }
def lawS6642BWholeRow : OpenClaim := { program := "ybulkegnm", sum := "176ab1c809382089bcf606d093f90973e88d1d162ebc43c072dbd8664c951f4c", func := "example.com/serialgraph/serialgraph.LawS6642BWhole", spec := "lawS6642BWhole", unfollowed := true, recurses := true, apart := false }
def LawS6642BWholeSaid : Prop := lawS6642BWholeRow.holds Yba.pinned (OpenSpec.ofChange lawS6642BWholeSpec)

/-- ITS FALSE NEIGHBOUR: 'it returns false'. Refute it at one input. -/
def lawS6642BWholeWrong : ChangeSpec := { name := "lawS6642BWhole", fn := fun _ => fun
  | [d1, d2, d3] => { results := [.lit (.bool false)], args := [d1, d2, d3] }
  | _ => none }
def LawS6642BWholeWrongFalsely : Prop := lawS6642BWholeRow.holds Yba.pinned (OpenSpec.ofChange lawS6642BWholeWrong)

end Rows
end Go.Proofs.Ybulkegnm
