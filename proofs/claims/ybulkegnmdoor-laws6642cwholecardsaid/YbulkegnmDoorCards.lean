/-
  DERIVED. GIVEN WITH THE SEED: THE CARDS: each row of YbulkegnmDoorRows.lean that lists a variable, with what it lists TIED to the program's text (the seventh form; the later family's looks); each row that meets fmt, with fmt's text TOLD by the authors' own Lean function (tested against real Go, not proved from fmt's source: count such statements apart). THE CARD IS WHAT COUNTS. Prove the row's statement (the work); the ties are given (YbulkegnmDoorTie.lean); close each card by the builder's one call (the guide's Derived/Test/ToyasCard.lean, 'card_holds'). Laid BY PROGRAM, IN A SANDBOX (cutbox-door.mjs). By AI agents, Wed Nov 11 2026. No macro, syntax, notation, axiom, sorry.
-/
import Derived.Test.YbulkegnmDoorRows
import GoSem.ClaimSeven
namespace Go.Proofs.YbulkegnmDoor
namespace Rows

/-- THE TIED CARD OF 'serialgraph.LawS6642AWhole'. -/
def lawS6642AWholeCard : Claim7 := { stood := { row := lawS6642AWholeRow, standIns := [], harness := (true, "36f8cda6c9f15c5b1fef7b3aca7ed30c048e0b26e6fcb89f00d4e21fd6933725"), looks := false }, kinds := [], alts := [], laidByText := true, laidKinds := [.data, .pinned, .pinned, .pinned, .pinned, .pinned, .pinned], laidTests := true, laidLooks := .later }
def LawS6642AWholeCardSaid : Prop := Claim7.holds Ybad.pinned (.plain (OpenSpec.ofChange lawS6642AWholeSpec)) lawS6642AWholeCard

/-- THE TIED CARD OF 'serialgraph.LawS6642CWhole'. -/
def lawS6642CWholeCard : Claim7 := { stood := { row := lawS6642CWholeRow, standIns := [], harness := (true, "36f8cda6c9f15c5b1fef7b3aca7ed30c048e0b26e6fcb89f00d4e21fd6933725"), looks := false }, kinds := [], alts := [], laidByText := true, laidKinds := [.data, .data], laidTests := true, laidLooks := .later }
def LawS6642CWholeCardSaid : Prop := Claim7.holds Ybad.pinned (.plain (OpenSpec.ofChange lawS6642CWholeSpec)) lawS6642CWholeCard
end Rows
end Go.Proofs.YbulkegnmDoor
