import Derived.Lib.TrailingZeros
import Derived.KernelRfl
namespace Go.Proofs.YbulkcoguDoor
set_option linter.unusedVariables false
set_option linter.unusedSimpArgs false

/-- The bits of x below n, in increasing order. -/
def ones (n x : Nat) : List Nat := (List.range n).filter fun u => x.testBit u

def lowOk (x : Nat) : Bool := x == 0 || (ones 9 x == Lib.ctz 64 x :: ones 9 (x &&& (x - 1)) && decide (x &&& (x - 1) < x))

theorem lowOk_all : ∀ x, x < 512 → lowOk x = true := by
  have h : ((List.range 512).all lowOk) = true := by decide +kernel
  intro x hx
  exact List.all_eq_true.1 h x (List.mem_range.2 hx)

theorem ones_low {x : Nat} (hx : x < 512) (h0 : x ≠ 0) : ones 9 x = Lib.ctz 64 x :: ones 9 (x &&& (x - 1)) ∧ x &&& (x - 1) < x := by
  have := lowOk_all x hx
  simp [lowOk, h0] at this
  exact this
end Go.Proofs.YbulkcoguDoor
