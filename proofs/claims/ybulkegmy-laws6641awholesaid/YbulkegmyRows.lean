/-
  No cell of these rows narrows 'for every input' (looked for: loops, veiled, ifaces, maps, wideKeys, modest, calm, conditions, laid).
  DERIVED. THE GIVEN ROWS OF THIS SEAT. 1 by the template 'for every input the law returns true; each argument reads behind the call as it read before'; 0 by the template 'total and deterministic' (their statements: YbulkegmyTotals.lean).
  GIVEN WITH THE SEED: the statements are not yours to turn. If you find one false, say at which input.
  Laid BY PROGRAM, IN A SANDBOX (cutbox-rows.mjs): the forced cells as the released guide's own fill.sh prints them over the translation eeca197313f72241… (all of the seat's roots in one cut). By AI agents, Wed Nov 11 2026. No macro, syntax, notation, axiom, sorry.
-/
import Derived.Test.YbulkegmyChecked
import GoSem.Claim
import GoSem.ClaimJoined
import GoSem.ClaimMapViews
import Derived.JoinedTies
import Derived.KernelRfl
namespace Go.Proofs.Ybulkegmy
/- THE CELL 'sum', in the pinned program and in every row, IS THE sha256 OF THE DUMP (.gsa) THAT YbulkegmyProg.lean LOADS. Nothing in Lean hashes anything: it is a label: what it is worth is what the hold of that sum in a sandbox is worth. -/
noncomputable def Yba.pinned : Pinned := { name := "ybulkegmy", sum := "eeca197313f722410ccc5b4fcd693204c1678d41bff1ca417c8628a1be0b31b8", checked := Yba.checked }
namespace Rows
def none {H : Type} : Left H := { results := [], args := [] }

/-- 'node.LawS6641AWhole': WHATEVER THE INPUT: true; the input reads as it did. -/
def lawS6641AWholeSpec : ChangeSpec := { name := "lawS6641AWhole", fn := fun _ => fun
  | [d1, d2] => { results := [.lit (.bool true)], args := [d1, d2] }
  | _ => none }
def lawS6641AWholeRow : OpenClaim := { program := "ybulkegmy", sum := "eeca197313f722410ccc5b4fcd693204c1678d41bff1ca417c8628a1be0b31b8", func := "example.com/roundlock/roundlock/node.LawS6641AWhole", spec := "lawS6641AWhole", unfollowed := true, recurses := true, apart := false }
def LawS6641AWholeSaid : Prop := lawS6641AWholeRow.holds Yba.pinned (OpenSpec.ofChange lawS6641AWholeSpec)

/-- ITS FALSE NEIGHBOUR: 'it returns false'. Refute it at one input. -/
def lawS6641AWholeWrong : ChangeSpec := { name := "lawS6641AWhole", fn := fun _ => fun
  | [d1, d2] => { results := [.lit (.bool false)], args := [d1, d2] }
  | _ => none }
def LawS6641AWholeWrongFalsely : Prop := lawS6641AWholeRow.holds Yba.pinned (OpenSpec.ofChange lawS6641AWholeWrong)

end Rows
end Go.Proofs.Ybulkegmy
