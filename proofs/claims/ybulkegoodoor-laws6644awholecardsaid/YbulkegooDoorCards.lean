/-
  DERIVED. GIVEN WITH THE SEED: THE CARDS: each row of YbulkegooDoorRows.lean that lists a variable, with what it lists TIED to the program's text (the seventh form; the later family's looks); each row that meets fmt, with fmt's text TOLD by the authors' own Lean function (tested against real Go, not proved from fmt's source: count such statements apart). THE CARD IS WHAT COUNTS. Prove the row's statement (the work); the ties are given (YbulkegooDoorTie.lean); close each card by the builder's one call (the guide's Derived/Test/ToyasCard.lean, 'card_holds'). Laid BY PROGRAM, IN A SANDBOX (cutbox-door.mjs). By AI agents, Wed Nov 11 2026. No macro, syntax, notation, axiom, sorry.
-/
import Derived.Test.YbulkegooDoorRows
import GoSem.ClaimSeven
namespace Go.Proofs.YbulkegooDoor
namespace Rows

/-- THE TIED CARD OF 'derrs.LawS6644AWhole'. -/
def lawS6644AWholeCard : Claim7 := { stood := { row := lawS6644AWholeRow, standIns := [], harness := (true, "229ab1b72da8a1bc3ff31b2e5845b74261ee1c8b7950c60ac6565cf424e3494d"), looks := false }, kinds := [], alts := [], laidByText := true, laidKinds := [.data, .data, .data], laidTests := true, laidLooks := .later }
def LawS6644AWholeCardSaid : Prop := Claim7.holds Ybad.pinned (.plain (OpenSpec.ofChange lawS6644AWholeSpec)) lawS6644AWholeCard
end Rows
end Go.Proofs.YbulkegooDoor
