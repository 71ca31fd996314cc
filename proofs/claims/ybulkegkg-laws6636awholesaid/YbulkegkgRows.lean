/-
  No cell of these rows narrows 'for every input' (looked for: loops, veiled, ifaces, maps, wideKeys, modest, calm, conditions, laid).
  DERIVED. THE GIVEN ROWS OF THIS SEAT. 1 by the template 'for every input the law returns true; each argument reads behind the call as it read before'; 0 by the template 'total and deterministic' (their statements: YbulkegkgTotals.lean).
  GIVEN WITH THE SEED: the statements are not yours to turn. If you find one false, say at which input.
  Laid BY PROGRAM, IN A SANDBOX (cutbox-rows.mjs): the forced cells as the released guide's own fill.sh prints them over the translation 215bb36d8c4e9518… (all of the seat's roots in one cut). By AI agents, Wed Nov 11 2026. No macro, syntax, notation, axiom, sorry.
-/
import Derived.Test.YbulkegkgChecked
import GoSem.Claim
import GoSem.ClaimJoined
import GoSem.ClaimMapViews
import Derived.JoinedTies
import Derived.KernelRfl
namespace Go.Proofs.Ybulkegkg
/- THE CELL 'sum', in the pinned program and in every row, IS THE sha256 OF THE DUMP (.gsa) THAT YbulkegkgProg.lean LOADS. Nothing in Lean hashes anything: it is a label: what it is worth is what the hold of that sum in a sandbox is worth. -/
noncomputable def Yba.pinned : Pinned := { name := "ybulkegkg", sum := "215bb36d8c4e9518a045b9d439a452cb9738b54314d4de2eeedf3fbb74103427", checked := Yba.checked }
namespace Rows
def none {H : Type} : Left H := { results := [], args := [] }

/-- 'jsonform.LawS6636AWhole': WHATEVER THE INPUT: true; the input reads as it did. -/
def lawS6636AWholeSpec : ChangeSpec := { name := "lawS6636AWhole", fn := fun _ => fun
  | [d1, d2] => { results := [.lit (.bool true)], args := [d1, d2] }
  | _ => none }
def lawS6636AWholeRow : OpenClaim := { program := "ybulkegkg", sum := "215bb36d8c4e9518a045b9d439a452cb9738b54314d4de2eeedf3fbb74103427", func := "example.com/reconcilia/reconcilia/internal/jsonform.LawS6636AWhole", spec := "lawS6636AWhole", apart := false }
def LawS6636AWholeSaid : Prop := lawS6636AWholeRow.holds Yba.pinned (OpenSpec.ofChange lawS6636AWholeSpec)

/-- ITS FALSE NEIGHBOUR: 'it returns false'. Refute it at one input. -/
def lawS6636AWholeWrong : ChangeSpec := { name := "lawS6636AWhole", fn := fun _ => fun
  | [d1, d2] => { results := [.lit (.bool false)], args := [d1, d2] }
  | _ => none }
def LawS6636AWholeWrongFalsely : Prop := lawS6636AWholeRow.holds Yba.pinned (OpenSpec.ofChange lawS6636AWholeWrong)

end Rows
end Go.Proofs.Ybulkegkg
