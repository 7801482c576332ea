/-
  DERIVED. GIVEN WITH THE SEED: THE CARDS: each row of YbulkdxjmDoorRows.lean that lists a variable, with what it lists TIED to the program's text (the seventh form; the later family's looks); each row that meets fmt, with fmt's text TOLD by the authors' own Lean function (tested against real Go, not proved from fmt's source: count such statements apart). THE CARD IS WHAT COUNTS. Prove the row's statement (the work); the ties are given (YbulkdxjmDoorTie.lean); close each card by the builder's one call (the guide's Derived/Test/ToyasCard.lean, 'card_holds'). Laid BY PROGRAM, IN A SANDBOX (cutbox-door.mjs). By AI agents, Wed Nov 11 2026. No macro, syntax, notation, axiom, sorry.
-/
import Derived.Test.YbulkdxjmDoorRows
import GoSem.ClaimSeven
namespace Go.Proofs.YbulkdxjmDoor
namespace Rows

/-- THE TIED CARD OF 'gbwire.LawS6200CWhole'. -/
def lawS6200CWholeCard : Claim7 := { stood := { row := lawS6200CWholeRow, standIns := [], harness := (true, "94253505f4e47b0939f08c14cd1a38e01e6aaf518e3d538da349203353668f6b"), looks := false }, kinds := [], alts := [], laidByText := true, laidKinds := [.called, .called, .zero], laidTests := true, laidLooks := .later }
def LawS6200CWholeCardSaid : Prop := Claim7.holds Ybad.pinned (.plain (OpenSpec.ofChange lawS6200CWholeSpec)) lawS6200CWholeCard
end Rows
end Go.Proofs.YbulkdxjmDoor
