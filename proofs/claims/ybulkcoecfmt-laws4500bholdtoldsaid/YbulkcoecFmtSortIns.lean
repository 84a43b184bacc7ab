import Derived.Test.YbulkcoecFmtSortBase
namespace Go.Proofs.YbulkcoecFmt
open Go.RowKit Go.Sort
set_option linter.unusedVariables false
set_option linter.unusedSimpArgs false

set_option maxRecDepth 100000 in
set_option maxHeartbeats 4000000 in
/-- insertionSortOrdered at uint64. -/
theorem ins_any {w0 W : World} {blk off N : Nat} {d : Array Int} (R : RowU w0 blk off N) (h : SU w0 blk off N d W) (hN : N < 4611686018427387904) {a b : Nat} (hab : a ≤ b) (hb : b ≤ N) (cap : Nat) :
    Calls Ybaf.prog 67 #[.slice (some ⟨blk, off, none⟩) N cap, .int .i64 a, .int .i64 b] W fun e w' => e = .returned (.tuple #[]) ∧ SU w0 blk off N (insertionSort ltInt d a b) w' := by
  have R : Hid (RowU w0 blk off N) := R
  go_enter Ybaf.func67, Ybaf.ntmps67
  go_wp2
  go_loopw [6] (fun vi wr => ∃ (i : Nat) (dk : Array Int), vi = .int .i64 i ∧ a < i ∧ i ≤ b + 1 ∧ SU w0 blk off N dk wr ∧
      insOuter ltInt a b i dk = insertionSort ltInt d a b) (fun vi _ => b + 1 - (intOf vi).toNat)
  case atStart => exact ⟨a + 1, d, by go_num, by omega, by omega, h, rfl⟩
  case round =>
    obtain ⟨i, dk, rfl, hai, hib, hsk, hO⟩ := hrel
    have hO : Hid (insOuter ltInt a b i dk = insertionSort ltInt d a b) := hO
    have hsk : Hid (SU w0 blk off N dk wr) := hsk
    go_wp2
    · go_loopw [7] (fun vj wr2 => ∃ (j : Nat) (dj : Array Int), vj = .int .i64 j ∧ a ≤ j ∧ j ≤ i ∧ SU w0 blk off N dj wr2 ∧
          insInner ltInt a j dj = insInner ltInt a i dk) (fun vj _ => (intOf vj).toNat)
      case atStart => exact ⟨i, dk, rfl, by omega, Nat.le_refl _, hsk.out, rfl⟩
      case round =>
        obtain ⟨j, dj, rfl, haj, hji, hsj, hI⟩ := hrel
        have hlt : i < b := by assumption
        obtain ⟨G, hG, hcw, hfw⟩ := SU.fam R.out hsj
        have hI : Hid (insInner ltInt a j dj = insInner ltInt a i dk) := hI
        have hsj : Hid (SU w0 blk off N dj wr) := hsj
        have out : Hid ((j ≤ a ∨ ltInt (G j) (G (j - 1)) = false) → ∀ q, ∃ (i' : Nat) (dk' : Array Int), Value.int .i64 ((i : Int) + 1) = .int .i64 i' ∧ a < i' ∧ i' ≤ b + 1 ∧ SU w0 blk off N dk' (wr.drewN q) ∧
            insOuter ltInt a b i' dk' = insertionSort ltInt d a b) := fun hs q =>
          ⟨i + 1, dj, by go_num, by omega, by omega, hsj.out.drewN q, by
            rw [hG.out, hG.out] at hs
            rw [← hO.out, insOuter_go _ _ _ _ _ hlt, ← hI.out, insInner_stop _ _ _ _ hs]⟩
        go_wp2
        by_cases hja : a < j
        · go_quiet (first | (go_at_call 73; refine Calls.quiet_of_same (less_any _ _ _)))
          go_wp2
          · have hl : ltInt (G j) (G (j - 1)) = true := by assumption
            go_region
            all_goals go_wp2
            go_roundw
            case rel =>
              refine ⟨j - 1, Sort.swp dj j (j - 1), by congr 1; omega, by omega, by omega, SU.swp R.out (hsj.out.drewN (nq + 1)) (by omega) (by omega) (hG.out _) (hG.out _), ?_⟩
              rw [← hI.out, insInner_go ltInt a j dj hja (by rw [← hG.out, ← hG.out]; exact hl)]
            case measure => simp [intOf]; omega
          · have hl : ltInt (G j) (G (j - 1)) = false := by assumption
            go_roundw
            case rel => exact out.out (Or.inr hl) nq
            case measure => simp [intOf]; omega
        · go_quiet (first | (go_at_call 73; refine Calls.quiet_of_same (less_any _ _ _)))
          go_wp2
          go_roundw
          case rel => exact out.out (Or.inl (by omega)) nq
          case measure => simp [intOf]; omega
    · have hge : ¬ i < b := by assumption
      go_end0
      exact ⟨rfl, by rw [← hO.out, insOuter_stop _ _ _ _ _ hge]; exact hsk.out⟩
end Go.Proofs.YbulkcoecFmt
