/-
  DERIVED. GIVEN WITH THE SEED: THE CARDS: each row of YbulkfceeDoorRows.lean that lists a variable, with what it lists TIED to the program's text (the seventh form; the later family's looks); each row that meets fmt, with fmt's text TOLD by the authors' own Lean function (tested against real Go, not proved from fmt's source: count such statements apart). THE CARD IS WHAT COUNTS. Prove the row's statement (the work); the ties are given (YbulkfceeDoorTie.lean); close each card by the builder's one call (the guide's Derived/Test/ToyasCard.lean, 'card_holds'). Laid BY PROGRAM, IN A SANDBOX (cutbox-door.mjs). By AI agents, Wed Nov 11 2026. No macro, syntax, notation, axiom, sorry.
-/
import Derived.Test.YbulkfceeDoorRows
import GoSem.ClaimSeven
namespace Go.Proofs.YbulkfceeDoor
namespace Rows

/-- THE TIED CARD OF 'sign-to-pass.LawS7687BWhole'. -/
def lawS7687BWholeCard : Claim7 := { stood := { row := lawS7687BWholeRow, standIns := [], harness := (true, "d140e8d6566fd41776d4b6b2e8a09d88f26ccac99236f2aa6d1bc0b19ee4dfa4"), looks := true }, kinds := [], alts := [], laidByText := true, laidKinds := [.data, .data, .data, .sentinel, .sentinel], laidTests := true, laidLooks := .later }
def LawS7687BWholeCardSaid : Prop := Claim7.holds Ybad.pinned (.plain (OpenSpec.ofChange lawS7687BWholeSpec)) lawS7687BWholeCard
end Rows
end Go.Proofs.YbulkfceeDoor
