import Derived.Test.YbulkcoecFmtSortBase
namespace Go.Proofs.YbulkcoecFmt
open Go.RowKit Go.Sort
set_option linter.unusedVariables false
set_option linter.unusedSimpArgs false

set_option maxRecDepth 100000 in
set_option maxHeartbeats 4000000 in
/-- reverseRangeOrdered at uint64. -/
theorem rev_any {w0 W : World} {blk off N : Nat} {d : Array Int} (R : RowU w0 blk off N) (h : SU w0 blk off N d W) (hN : N < 4611686018427387904) {a b : Nat} (hab : a < b) (hb : b ≤ N) (cap : Nat) :
    Calls Ybaf.prog 71 #[.slice (some ⟨blk, off, none⟩) N cap, .int .i64 a, .int .i64 b] W fun e w' => e = .returned (.tuple #[]) ∧ SU w0 blk off N (reverseRange d a b) w' := by
  have R : Hid (RowU w0 blk off N) := R
  go_enter Ybaf.func71, Ybaf.ntmps71
  go_wp2
  go_loopw [6, 7] (fun vi vj wr => ∃ (i j : Nat) (dk : Array Int), vi = .int .i64 i ∧ vj = .int .i64 j ∧ i ≤ j + 1 ∧ j < N ∧ SU w0 blk off N dk wr ∧
      reverseLoop i j dk = reverseRange d a b) (fun vi vj _ => N + (intOf vj).toNat - (intOf vi).toNat)
  case atStart => exact ⟨a, b - 1, d, rfl, by go_num, by omega, by omega, h, rfl⟩
  case round =>
    obtain ⟨i, j, dk, rfl, rfl, hij, hjN, hsk, hO⟩ := hrel
    obtain ⟨G, hG, hcw, hfw⟩ := SU.fam R.out hsk
    have hO : Hid (reverseLoop i j dk = reverseRange d a b) := hO
    have hsk : Hid (SU w0 blk off N dk wr) := hsk
    go_wp2
    · have hlt : i < j := by assumption
      go_region
      all_goals go_wp2
      go_roundw
      case rel =>
        refine ⟨i + 1, j - 1, Sort.swp dk i j, by go_num, by congr 1; omega, by omega, by omega, SU.swp R.out (hsk.out.drewN 1) (by omega) (by omega) (hG.out _) (hG.out _), ?_⟩
        rw [← hO.out, reverseLoop.eq_1 i j dk, if_pos hlt]
      case measure => simp [intOf]; omega
    · have hge : ¬ i < j := by assumption
      go_end0
      exact ⟨rfl, by rw [← hO.out, reverseLoop, if_neg hge]; exact hsk.out⟩
end Go.Proofs.YbulkcoecFmt
