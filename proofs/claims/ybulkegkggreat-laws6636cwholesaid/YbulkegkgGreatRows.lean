/-
  No cell of these rows narrows 'for every input' (looked for: loops, veiled, ifaces, maps, wideKeys, modest, calm, conditions, laid).
  DERIVED. THE GIVEN ROWS OF THIS SEAT. 1 by the template 'for every input the law returns true; each argument reads behind the call as it read before'; 0 by the template 'total and deterministic' (their statements: YbulkegkgGreatTotals.lean).
  GIVEN WITH THE SEED: the statements are not yours to turn. If you find one false, say at which input.
  Laid BY PROGRAM, IN A SANDBOX (cutbox-rows.mjs): the forced cells as the released guide's own fill.sh prints them over the translation 44e32aacaa464d00… (all of the seat's roots in one cut). By AI agents, Wed Nov 11 2026. No macro, syntax, notation, axiom, sorry.
-/
import Derived.Test.YbulkegkgGreatChecked
import GoSem.Claim
import GoSem.ClaimJoined
import GoSem.ClaimMapViews
import Derived.JoinedTies
import Derived.KernelRfl
namespace Go.Proofs.YbulkegkgGreat
/- THE CELL 'sum', in the pinned program and in every row, IS THE sha256 OF THE DUMP (.gsa) THAT YbulkegkgGreatProg.lean LOADS. Nothing in Lean hashes anything: it is a label: what it is worth is what the hold of that sum in a sandbox is worth. -/
noncomputable def Ybaz.pinned : Pinned := { name := "ybulkegkggreat", sum := "44e32aacaa464d0062cfdc0b6b6a5c58f2a38d824bf14d2901664ceefe86fa8c", checked := Ybaz.checked }
namespace Rows
def none {H : Type} : Left H := { results := [], args := [] }

/-- 'server.LawS6636CWhole': WHATEVER THE INPUT: true; the input reads as it did. -/
def lawS6636CWholeSpec : ChangeSpec := { name := "lawS6636CWhole", fn := fun _ => fun
  | [d1, d2, d3, d4, d5, d6, d7] => { results := [.lit (.bool true)], args := [d1, d2, d3, d4, d5, d6, d7] }
  | _ => none }
def lawS6636CWholeRow : OpenClaim := { program := "ybulkegkggreat", sum := "44e32aacaa464d0062cfdc0b6b6a5c58f2a38d824bf14d2901664ceefe86fa8c", func := "example.com/reconcilia/reconcilia/server.LawS6636CWhole", spec := "lawS6636CWhole", inPlace := ["internal/bytealg.abigen_runtime_cmpstring"], unfollowed := true, recurses := true, apart := false }
def LawS6636CWholeSaid : Prop := lawS6636CWholeRow.holds Ybaz.pinned (OpenSpec.ofChange lawS6636CWholeSpec)

/-- ITS FALSE NEIGHBOUR: 'it returns false'. Refute it at one input. -/
def lawS6636CWholeWrong : ChangeSpec := { name := "lawS6636CWhole", fn := fun _ => fun
  | [d1, d2, d3, d4, d5, d6, d7] => { results := [.lit (.bool false)], args := [d1, d2, d3, d4, d5, d6, d7] }
  | _ => none }
def LawS6636CWholeWrongFalsely : Prop := lawS6636CWholeRow.holds Ybaz.pinned (OpenSpec.ofChange lawS6636CWholeWrong)

end Rows
end Go.Proofs.YbulkegkgGreat
