/-
  DERIVED. GIVEN WITH THE SEED: THE CARDS: each row of YbulkcoguDoorRows.lean that lists a variable, with what it lists TIED to the program's text (the seventh form; the later family's looks); each row that meets fmt, with fmt's text TOLD by the authors' own Lean function (tested against real Go, not proved from fmt's source: count such statements apart). THE CARD IS WHAT COUNTS. Prove the row's statement (the work); the ties are given (YbulkcoguDoorTie.lean); close each card by the builder's one call (the guide's Derived/Test/ToyasCard.lean, 'card_holds'). Laid BY PROGRAM, IN A SANDBOX (cutbox-door.mjs). By AI agents, Wed Nov 11 2026. No macro, syntax, notation, axiom, sorry.
-/
import Derived.Test.YbulkcoguDoorRows
import GoSem.ClaimSeven
namespace Go.Proofs.YbulkcoguDoor
namespace Rows

/-- THE TIED CARD OF 'view.LawS4505ARecordedUndo'. -/
def lawS4505ARecordedUndoCard : Claim7 := { stood := { row := lawS4505ARecordedUndoRow, standIns := [], harness := (true, "bb1d453083d9742f6f4f268e406bf975dc28af4ffb8705fc9c841ebaa73be666"), looks := false }, kinds := [], alts := [], laidByText := true, laidKinds := [.data], laidTests := true, laidLooks := .later }
def LawS4505ARecordedUndoCardSaid : Prop := Claim7.holds Ybad.pinned (.plain (OpenSpec.ofChange lawS4505ARecordedUndoSpec)) lawS4505ARecordedUndoCard

/-- THE TIED CARD OF 'view.LawS4505AReplay'. -/
def lawS4505AReplayCard : Claim7 := { stood := { row := lawS4505AReplayRow, standIns := [], harness := (true, "bb1d453083d9742f6f4f268e406bf975dc28af4ffb8705fc9c841ebaa73be666"), looks := false }, kinds := [], alts := [], laidByText := true, laidKinds := [.data], laidTests := true, laidLooks := .later }
def LawS4505AReplayCardSaid : Prop := Claim7.holds Ybad.pinned (.plain (OpenSpec.ofChange lawS4505AReplaySpec)) lawS4505AReplayCard
end Rows
end Go.Proofs.YbulkcoguDoor
