/-
  DERIVED. GIVEN WITH THE SEED: THE CARDS: each row of YbulkcoecFmtRows.lean that lists a variable, with what it lists TIED to the program's text (the seventh form; the later family's looks); each row that meets fmt, with fmt's text TOLD by the authors' own Lean function (tested against real Go, not proved from fmt's source: count such statements apart). THE CARD IS WHAT COUNTS. Prove the row's statement (the work); the ties are given (YbulkcoecFmtTie.lean); close each card by the builder's one call (the guide's Derived/Test/ToyasCard.lean, 'card_holds'). Laid BY PROGRAM, IN A SANDBOX (cutbox-door.mjs). By AI agents, Wed Nov 11 2026. No macro, syntax, notation, axiom, sorry.
-/
import Derived.Test.YbulkcoecFmtRows
import GoSem.ClaimSeven
namespace Go.Proofs.YbulkcoecFmt
namespace Rows

/-- THE TOLD AND TIED CARD OF 'trace.LawS4500AFormat'. -/
def lawS4500AFormatCard : Claim7 := { stood := { row := lawS4500AFormatRow, standIns := [], harness := (true, "2c9bdea88e04f44eb52a776874b0c73e3b429003b694b5385f1db67abbb5aced"), looks := false }, told := true, laidByText := true, laidKinds := [.data, .data, .data, .data, .pinned], laidTests := true, laidLooks := .later, goes := false }
def LawS4500AFormatToldSaid : Prop := Claim7.holds Ybaf.pinned (.plain (OpenSpec.ofChange lawS4500AFormatSpec)) lawS4500AFormatCard
/-- ITS FALSE NEIGHBOUR. Refute it at one input. -/
def LawS4500AFormatToldWrongFalsely : Prop := Claim7.holds Ybaf.pinned (.plain (OpenSpec.ofChange lawS4500AFormatWrong)) lawS4500AFormatCard

/-- THE TOLD CARD OF 'network.LawS4500BHold'. -/
def lawS4500BHoldCard : Claim7 := { stood := { row := lawS4500BHoldRow, standIns := [], harness := (true, "2c9bdea88e04f44eb52a776874b0c73e3b429003b694b5385f1db67abbb5aced"), looks := false }, told := true, goes := false }
def LawS4500BHoldToldSaid : Prop := Claim7.holds Ybaf.pinned (.plain (OpenSpec.ofChange lawS4500BHoldSpec)) lawS4500BHoldCard
/-- ITS FALSE NEIGHBOUR. Refute it at one input. -/
def LawS4500BHoldToldWrongFalsely : Prop := Claim7.holds Ybaf.pinned (.plain (OpenSpec.ofChange lawS4500BHoldWrong)) lawS4500BHoldCard

/-- THE TOLD CARD OF 'network.LawS4500BHand'. -/
def lawS4500BHandCard : Claim7 := { stood := { row := lawS4500BHandRow, standIns := [], harness := (true, "2c9bdea88e04f44eb52a776874b0c73e3b429003b694b5385f1db67abbb5aced"), looks := false }, told := true, goes := false }
def LawS4500BHandToldSaid : Prop := Claim7.holds Ybaf.pinned (.plain (OpenSpec.ofChange lawS4500BHandSpec)) lawS4500BHandCard
/-- ITS FALSE NEIGHBOUR. Refute it at one input. -/
def LawS4500BHandToldWrongFalsely : Prop := Claim7.holds Ybaf.pinned (.plain (OpenSpec.ofChange lawS4500BHandWrong)) lawS4500BHandCard
end Rows
end Go.Proofs.YbulkcoecFmt
