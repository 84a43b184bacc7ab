import Derived.Test.YbulkcoguDoorProg
import Derived.KernelRfl
import Derived.WalkKit
import Derived.WalkSpells
import Derived.WalkLawsBesides
import Derived.BigQuiet
import Derived.Deep.LoopGhost
import Derived.Deep.OwnRows
import Derived.BigRegion
import Derived.Deep.RegionHeld3
import Derived.Deep.AppendLies
import Derived.Laws.Bits64b
import Derived.Lib.TrailingZeros
import Derived.Shelf.Spec.TrailingZeros
namespace Go.Proofs.YbulkcoguDoor
open Go.RowKit Go.Deep
set_option linter.unusedVariables false
set_option linter.unusedSimpArgs false

/-- A cell of a block. -/
theorem cell_in {w : World} {b o : Nat} {c : Array Value} {e : TypeId} {fz : Nat × Nat} {u : Value} (h : w.heap[b]? = some (.cells c e fz)) (hu : c[o]? = some u) : w.cell? ⟨b, o, none⟩ = some u := by
  simp [World.cell?, h, hu]

theorem free_in {w : World} {b o : Nat} {c : Array Value} {e : TypeId} (h : w.heap[b]? = some (.cells c e (0, 0))) : w.frozen? ⟨b, o, none⟩ = false := by
  simp [World.frozen?, h]

/-- (*steps).take(d): within the limit. -/
theorem take_any (b : Nat) (t d : Int) (w : World) (h0 : w.cell? ⟨b, 0, none⟩ = some (.int .i64 t)) (h1 : w.cell? ⟨b, 1, none⟩ = some (.int .i64 1099511627776))
    (hf : w.frozen? ⟨b, 0, none⟩ = false) (ht0 : 0 ≤ t) (ht : t ≤ 1000000000) (hd0 : 0 ≤ d) (hd : d ≤ 1000) :
    Calls Ybad.prog 20 #[.pointer (some ⟨b, 0, none⟩), .int .i64 d] w fun e w' => e = .returned (.tuple #[]) ∧ ∃ n, w' = (w.drewN n).setCell ⟨b, 0, none⟩ (.int .i64 (t + d)) := by
  go_enter Ybad.func20, Ybad.ntmps20
  go_wp2
  go_quiet (fail)
  go_wp2
  go_end0
  exact ⟨rfl, _, rfl⟩

theorem setSteps_any (n : Nat) (hn : n ≤ 1000) (w : World) : Calls Ybad.prog 25 #[.int .i64 n] w fun e w' => e = .returned (.int .i64 ((n + 7) / 8 : Nat)) ∧ w' = w := by
  go_enter Ybad.func25, Ybad.ntmps25
  go_wp2
  go_ret
  refine ⟨?_, rfl⟩
  show Ending.returned (Value.int _ _) = _
  congr 2
  omega

theorem tz_core (x k idx : Nat) (w : World) (hx0 : ((x : Int) == 0) = false)
    (key : IntKind.u64.wrap (bits BinOp.and IntKind.u64 (x : Int) (IntKind.u64.wrap (-(x : Int))) * 285870213051353865) / 288230376151711744 = (idx : Int))
    (hi : idx < 64) (hk : k < 64) (hcell : w.cell? ⟨0, idx, none⟩ = some (.int .u8 k)) :
    Calls Ybad.prog 26 #[.int .u64 x] w fun e w' => e = .returned (.int .i64 k) ∧ w' = w := by
  go_enter Ybad.func26, Ybad.ntmps26
  go_wp2_with (simp only [key])
  go_ret
  exact ⟨rfl, rfl⟩

/-- math/bits.TrailingZeros64. -/
theorem tz_any (x : Nat) (hx : x < 18446744073709551616) (hx0 : x ≠ 0) (w : World) (hT : TabAt 0 Lib.deBruijn64tab w) :
    Calls Ybad.prog 26 #[.int .u64 x] w fun e w' => e = .returned (.int .i64 (Lib.ctz 64 x)) ∧ w' = w := by
  obtain ⟨hlow, hk⟩ := Lib.lowest_bit 64 x hx0 hx
  obtain ⟨hi, htab⟩ := Lib.deBruijn64_at _ hk
  have hcell := hT _ hi
  rw [htab] at hcell
  exact tz_core x _ _ w (by simp; omega) (tz64_key x _ hx hx0 hlow) hi hk hcell

/-- k.set(at), one word a set. -/
theorem set_any (K bB at_ N c : Nat) (w : World) (h1 : w.cell? ⟨K, 1, none⟩ = some (.int .i64 1)) (h4 : w.cell? ⟨K, 4, none⟩ = some (.slice (some ⟨bB, 0, none⟩) N c)) (hat : at_ < N) (hN : N ≤ 1000) (hc : N ≤ c) :
    Calls Ybad.prog 29 #[.pointer (some ⟨K, 0, none⟩), .int .i64 at_] w fun e w' => e = .returned (.slice (some ⟨bB, at_, none⟩) 1 1) ∧ ∃ n, w' = w.drewN n := by
  go_enter Ybad.func29, Ybad.ntmps29
  go_wp2
  go_quiet (fail)
  go_wp2
  go_ret
  exact ⟨rfl, _, rfl⟩

end Go.Proofs.YbulkcoguDoor
