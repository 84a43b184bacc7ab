/-
  No cell of these rows narrows 'for every input' (looked for: loops, veiled, ifaces, maps, wideKeys, modest, calm, conditions, laid).
  DERIVED. THE GIVEN ROWS OF THIS SEAT. 3 by the template 'for every input the law returns true; each argument reads behind the call as it read before'; 0 by the template 'total and deterministic' (their statements: YbulkcoguTotals.lean).
  GIVEN WITH THE SEED: the statements are not yours to turn. If you find one false, say at which input.
  Laid BY PROGRAM, IN A SANDBOX (cutbox-rows.mjs): the forced cells as the released guide's own fill.sh prints them over the translation dac8525276d6e415… (all of the seat's roots in one cut). By AI agents, Wed Nov 11 2026. No macro, syntax, notation, axiom, sorry.
-/
import Derived.Test.YbulkcoguChecked
import GoSem.Claim
import GoSem.ClaimJoined
import GoSem.ClaimMapViews
import Derived.JoinedTies
import Derived.KernelRfl
namespace Go.Proofs.Ybulkcogu
/- THE CELL 'sum', in the pinned program and in every row, IS THE sha256 OF THE DUMP (.gsa) THAT YbulkcoguProg.lean LOADS. Nothing in Lean hashes anything: it is a label: what it is worth is what the hold of that sum in a sandbox is worth. -/
noncomputable def Yba.pinned : Pinned := { name := "ybulkcogu", sum := "dac8525276d6e4154cbf0170d4e455a887b1b7b9944a562bb787268f8be3b480", checked := Yba.checked }
namespace Rows
def none {H : Type} : Left H := { results := [], args := [] }

/-- 'view.LawS4505CKnot': WHATEVER THE INPUT: true; the input reads as it did. -/
def lawS4505CKnotSpec : ChangeSpec := { name := "lawS4505CKnot", fn := fun _ => fun
  | [d1, d2, d3, d4, d5] => { results := [.lit (.bool true)], args := [d1, d2, d3, d4, d5] }
  | _ => none }
def lawS4505CKnotRow : OpenClaim := { program := "ybulkcogu", sum := "dac8525276d6e4154cbf0170d4e455a887b1b7b9944a562bb787268f8be3b480", func := "example.com/cronograma/cronograma/pkg/view.LawS4505CKnot", spec := "lawS4505CKnot", unfollowed := true, recurses := true, apart := false }
def LawS4505CKnotSaid : Prop := lawS4505CKnotRow.holds Yba.pinned (OpenSpec.ofChange lawS4505CKnotSpec)

/-- ITS FALSE NEIGHBOUR: 'it returns false'. Refute it at one input. -/
def lawS4505CKnotWrong : ChangeSpec := { name := "lawS4505CKnot", fn := fun _ => fun
  | [d1, d2, d3, d4, d5] => { results := [.lit (.bool false)], args := [d1, d2, d3, d4, d5] }
  | _ => none }
def LawS4505CKnotWrongFalsely : Prop := lawS4505CKnotRow.holds Yba.pinned (OpenSpec.ofChange lawS4505CKnotWrong)

/-- 'view.LawS4505CRefusal': WHATEVER THE INPUT: true; the input reads as it did. -/
def lawS4505CRefusalSpec : ChangeSpec := { name := "lawS4505CRefusal", fn := fun _ => fun
  | [d1, d2, d3, d4] => { results := [.lit (.bool true)], args := [d1, d2, d3, d4] }
  | _ => none }
def lawS4505CRefusalRow : OpenClaim := { program := "ybulkcogu", sum := "dac8525276d6e4154cbf0170d4e455a887b1b7b9944a562bb787268f8be3b480", func := "example.com/cronograma/cronograma/pkg/view.LawS4505CRefusal", spec := "lawS4505CRefusal", unfollowed := true, recurses := true, apart := false }
def LawS4505CRefusalSaid : Prop := lawS4505CRefusalRow.holds Yba.pinned (OpenSpec.ofChange lawS4505CRefusalSpec)

/-- ITS FALSE NEIGHBOUR: 'it returns false'. Refute it at one input. -/
def lawS4505CRefusalWrong : ChangeSpec := { name := "lawS4505CRefusal", fn := fun _ => fun
  | [d1, d2, d3, d4] => { results := [.lit (.bool false)], args := [d1, d2, d3, d4] }
  | _ => none }
def LawS4505CRefusalWrongFalsely : Prop := lawS4505CRefusalRow.holds Yba.pinned (OpenSpec.ofChange lawS4505CRefusalWrong)

/-- 'view.LawS4505CReads': WHATEVER THE INPUT: true; the input reads as it did. -/
def lawS4505CReadsSpec : ChangeSpec := { name := "lawS4505CReads", fn := fun _ => fun
  | [d1, d2, d3] => { results := [.lit (.bool true)], args := [d1, d2, d3] }
  | _ => none }
def lawS4505CReadsRow : OpenClaim := { program := "ybulkcogu", sum := "dac8525276d6e4154cbf0170d4e455a887b1b7b9944a562bb787268f8be3b480", func := "example.com/cronograma/cronograma/pkg/view.LawS4505CReads", spec := "lawS4505CReads", unfollowed := true, recurses := true, apart := false }
def LawS4505CReadsSaid : Prop := lawS4505CReadsRow.holds Yba.pinned (OpenSpec.ofChange lawS4505CReadsSpec)

/-- ITS FALSE NEIGHBOUR: 'it returns false'. Refute it at one input. -/
def lawS4505CReadsWrong : ChangeSpec := { name := "lawS4505CReads", fn := fun _ => fun
  | [d1, d2, d3] => { results := [.lit (.bool false)], args := [d1, d2, d3] }
  | _ => none }
def LawS4505CReadsWrongFalsely : Prop := lawS4505CReadsRow.holds Yba.pinned (OpenSpec.ofChange lawS4505CReadsWrong)

end Rows
end Go.Proofs.Ybulkcogu
