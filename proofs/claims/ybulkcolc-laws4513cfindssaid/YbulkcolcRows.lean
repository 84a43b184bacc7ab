/-
  No cell of these rows narrows 'for every input' (looked for: loops, veiled, ifaces, maps, wideKeys, modest, calm, conditions, laid).
  DERIVED. THE GIVEN ROWS OF THIS SEAT. 2 by the template 'for every input the law returns true; each argument reads behind the call as it read before'; 0 by the template 'total and deterministic' (their statements: YbulkcolcTotals.lean).
  GIVEN WITH THE SEED: the statements are not yours to turn. If you find one false, say at which input.
  Laid BY PROGRAM, IN A SANDBOX (cutbox-rows.mjs): the forced cells as the released guide's own fill.sh prints them over the translation 82330ddae61c6382… (all of the seat's roots in one cut). By AI agents, Wed Nov 11 2026. No macro, syntax, notation, axiom, sorry.
-/
import Derived.Test.YbulkcolcChecked
import GoSem.Claim
import GoSem.ClaimJoined
import GoSem.ClaimMapViews
import Derived.JoinedTies
import Derived.KernelRfl
namespace Go.Proofs.Ybulkcolc
/- THE CELL 'sum', in the pinned program and in every row, IS THE sha256 OF THE DUMP (.gsa) THAT YbulkcolcProg.lean LOADS. Nothing in Lean hashes anything: it is a label: what it is worth is what the hold of that sum in a sandbox is worth. -/
noncomputable def Yba.pinned : Pinned := { name := "ybulkcolc", sum := "82330ddae61c6382fbd4681a2676dc15b9668385edc5a8582926080d97d39026", checked := Yba.checked }
namespace Rows
def none {H : Type} : Left H := { results := [], args := [] }

/-- 'redact.LawS4513BSpans': WHATEVER THE INPUT: true; the input reads as it did. -/
def lawS4513BSpansSpec : ChangeSpec := { name := "lawS4513BSpans", fn := fun _ => fun
  | [d1, d2, d3, d4] => { results := [.lit (.bool true)], args := [d1, d2, d3, d4] }
  | _ => none }
def lawS4513BSpansRow : OpenClaim := { program := "ybulkcolc", sum := "82330ddae61c6382fbd4681a2676dc15b9668385edc5a8582926080d97d39026", func := "example.com/hushwire/hushwire/redact.LawS4513BSpans", spec := "lawS4513BSpans", inPlace := ["internal/bytealg.IndexByte", "internal/bytealg.Index"], unfollowed := true, recurses := true, named := ["internal/bytealg.MaxLen"], apart := false }
def LawS4513BSpansSaid : Prop := lawS4513BSpansRow.holds Yba.pinned (OpenSpec.ofChange lawS4513BSpansSpec)

/-- ITS FALSE NEIGHBOUR: 'it returns false'. Refute it at one input. -/
def lawS4513BSpansWrong : ChangeSpec := { name := "lawS4513BSpans", fn := fun _ => fun
  | [d1, d2, d3, d4] => { results := [.lit (.bool false)], args := [d1, d2, d3, d4] }
  | _ => none }
def LawS4513BSpansWrongFalsely : Prop := lawS4513BSpansRow.holds Yba.pinned (OpenSpec.ofChange lawS4513BSpansWrong)

/-- 'redact.LawS4513CFinds': WHATEVER THE INPUT: true; the input reads as it did. -/
def lawS4513CFindsSpec : ChangeSpec := { name := "lawS4513CFinds", fn := fun _ => fun
  | [d1, d2, d3] => { results := [.lit (.bool true)], args := [d1, d2, d3] }
  | _ => none }
def lawS4513CFindsRow : OpenClaim := { program := "ybulkcolc", sum := "82330ddae61c6382fbd4681a2676dc15b9668385edc5a8582926080d97d39026", func := "example.com/hushwire/hushwire/redact.LawS4513CFinds", spec := "lawS4513CFinds", unfollowed := true, recurses := true, apart := false }
def LawS4513CFindsSaid : Prop := lawS4513CFindsRow.holds Yba.pinned (OpenSpec.ofChange lawS4513CFindsSpec)

/-- ITS FALSE NEIGHBOUR: 'it returns false'. Refute it at one input. -/
def lawS4513CFindsWrong : ChangeSpec := { name := "lawS4513CFinds", fn := fun _ => fun
  | [d1, d2, d3] => { results := [.lit (.bool false)], args := [d1, d2, d3] }
  | _ => none }
def LawS4513CFindsWrongFalsely : Prop := lawS4513CFindsRow.holds Yba.pinned (OpenSpec.ofChange lawS4513CFindsWrong)

end Rows
end Go.Proofs.Ybulkcolc
