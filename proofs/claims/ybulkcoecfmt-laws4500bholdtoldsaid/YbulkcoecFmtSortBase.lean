import Derived.Test.YbulkcoecFmtProg
import Derived.Shelf.SlSortCmp.Kit1
import Derived.Sort.WalkA
import Derived.Sort.WalkB2
import Derived.Sort.WalkC4
import Derived.Sort.AssemblyPlain
import Derived.Deep.LoopGhost
import Derived.Deep.Cut
import Derived.KernelRfl
namespace Go.Proofs.YbulkcoecFmt
open Go.RowKit Go.Sort
set_option linter.unusedVariables false
set_option linter.unusedSimpArgs false

/-- cmp.isNaN at uint64: never. -/
theorem nan_any (x : Int) (w : World) : Calls Ybaf.prog 107 #[.int .u64 x] w fun e w' => e = .returned (.bool false) ∧ w' = w := by
  go_enter Ybaf.func107, Ybaf.ntmps107
  go_wp2
  go_ret
  exact ⟨by simp, rfl⟩

/-- cmp.Less at uint64. -/
theorem less_any (x y : Int) (w : World) : Calls Ybaf.prog 73 #[.int .u64 x, .int .u64 y] w fun e w' => e = .returned (.bool (ltInt x y)) ∧ w' = w := by
  have h1 := nan_any
  go_enter Ybaf.func73, Ybaf.ntmps73
  go_wp2_with fail
  refine (nan_any _ _).mono ?_
  rintro e w' ⟨rfl, rfl⟩
  go_wp2
  go_ret
  exact ⟨rfl, rfl⟩

/-- What is told of the row that is sorted, once. -/
def RowU (w0 : World) (blk off N : Nat) : Prop := ∃ d0 : Array Int, d0.size = N ∧ Row1 (Value.int .u64) w0 blk off d0

/-- The world W is a world of the sort, the row holds d. -/
structure SU (w0 : World) (blk off N : Nat) (d : Array Int) (W : World) : Prop where
  size : d.size = N
  sw : SW (Value.int .u64) w0 blk off d W

theorem SU.drewN {w0 W : World} {blk off N : Nat} {d : Array Int} (h : SU w0 blk off N d W) (q : Nat) : SU w0 blk off N d (W.drewN q) := ⟨h.size, h.sw.drewN q⟩

theorem SU.fam {w0 W : World} {blk off N : Nat} {d : Array Int} (R : RowU w0 blk off N) (h : SU w0 blk off N d W) :
    ∃ G : Nat → Int, Hid (∀ t, G t = d[t]!) ∧ (∀ t, t < N → W.cell? ⟨blk, off + t, none⟩ = some (.int .u64 (G t))) ∧ (∀ t, t < N → W.frozen? ⟨blk, off + t, none⟩ = false) := by
  obtain ⟨d0, hd0, R⟩ := R
  refine ⟨fun t => d[t]!, fun _ => rfl, fun t ht => ?_, fun t ht => ?_⟩
  · exact h.sw.c1 R (by rw [h.size, hd0]) t (by rw [h.size]; exact ht)
  · exact h.sw.f1 R (by rw [h.size, hd0]) t (by rw [h.size]; exact ht)

theorem SU.cw {w0 W : World} {blk off N : Nat} {d : Array Int} {G : Nat → Int} (R : RowU w0 blk off N) (hG : Hid (∀ t, G t = d[t]!)) (h : SU w0 blk off N d W) :
    ∀ t, t < N → W.cell? ⟨blk, off + t, none⟩ = some (.int .u64 (G t)) := by
  obtain ⟨d0, hd0, R⟩ := R
  intro t ht
  rw [hG.out]
  exact h.sw.c1 R (by rw [h.size, hd0]) t (by rw [h.size]; exact ht)

theorem SU.fw {w0 W : World} {blk off N : Nat} {d : Array Int} (R : RowU w0 blk off N) (h : SU w0 blk off N d W) :
    ∀ t, t < N → W.frozen? ⟨blk, off + t, none⟩ = false := by
  obtain ⟨d0, hd0, R⟩ := R
  intro t ht
  exact h.sw.f1 R (by rw [h.size, hd0]) t (by rw [h.size]; exact ht)

theorem SU.swp {w0 W : World} {blk off N : Nat} {d : Array Int} (R : RowU w0 blk off N) (h : SU w0 blk off N d W) {i j : Nat} (hi : i < N) (hj : j < N) {a b : Int} (ha : a = d[j]!) (hb : b = d[i]!) :
    SU w0 blk off N (Sort.swp d i j) ((W.setCell ⟨blk, off + i, none⟩ (.int .u64 a)).setCell ⟨blk, off + j, none⟩ (.int .u64 b)) := by
  obtain ⟨d0, hd0, R⟩ := R
  subst ha hb
  exact ⟨by rw [size_swp]; exact h.size, h.sw.swap R.hblk i j (by rw [h.size]; exact hi) (by rw [h.size]; exact hj)⟩

end Go.Proofs.YbulkcoecFmt
