import Derived.Test.YbulkcoecFmtSortBase
namespace Go.Proofs.YbulkcoecFmt
open Go.RowKit Go.Sort
set_option linter.unusedVariables false
set_option linter.unusedSimpArgs false

set_option maxRecDepth 100000 in
set_option maxHeartbeats 8000000 in
/-- siftDownOrdered at uint64. -/
theorem sift_any {w0 W : World} {blk off N : Nat} {d : Array Int} (R : RowU w0 blk off N) (h : SU w0 blk off N d W) (hN : N < 4611686018427387904) {lo hi first : Nat} (hlo : lo ≤ hi) (hb : first + hi ≤ N) (cap : Nat) :
    Calls Ybaf.prog 102 #[.slice (some ⟨blk, off, none⟩) N cap, .int .i64 lo, .int .i64 hi, .int .i64 first] W fun e w' => e = .returned (.tuple #[]) ∧ SU w0 blk off N (siftDown ltInt hi first lo d) w' := by
  have R : Hid (RowU w0 blk off N) := R
  go_enter Ybaf.func102, Ybaf.ntmps102
  go_wp2
  go_loopw [8] (fun vr wr => ∃ (r : Nat) (dk : Array Int), vr = .int .i64 r ∧ r ≤ hi ∧ SU w0 blk off N dk wr ∧
      siftDown ltInt hi first r dk = siftDown ltInt hi first lo d) (fun vr _ => hi - (intOf vr).toNat)
  case atStart => exact ⟨lo, d, rfl, hlo, h, rfl⟩
  case round =>
    obtain ⟨r, dk, rfl, hr, hsk, hO⟩ := hrel
    obtain ⟨G, hG, hcw, hfw⟩ := SU.fam R.out hsk
    have hO : Hid (siftDown ltInt hi first r dk = siftDown ltInt hi first lo d) := hO
    have hsk : Hid (SU w0 blk off N dk wr) := hsk
    by_cases h0 : hi ≤ 2 * r + 1
    · have h0z : (hi : Int) ≤ 2 * (r : Int) + 1 := by omega
      go_wp2
      go_end0
      exact ⟨rfl, by rw [← hO.out, sd_end ltInt dk h0]; exact hsk.out⟩
    · have h0z : ¬ ((hi : Int) ≤ 2 * (r : Int) + 1) := by omega
      by_cases h1 : 2 * r + 2 < hi
      · have h1z : 2 * (r : Int) + 1 + 1 < (hi : Int) := by omega
        go_wp2_with fail
        go_big_quiet (first | (go_at_call 73; refine Calls.quiet_of_same (less_any _ _ _)))
        go_wp2_with fail
        · have hL : ltInt (G (first + (2 * r + 1))) (G (first + (2 * r + 2))) = true := by assumption
          revert nq; intro q1
          obtain ⟨w2, hw2⟩ : ∃ w2, w2 = wr.drewN q1 := ⟨_, rfl⟩
          rw [← hw2]
          have hs2 : Hid (SU w0 blk off N dk w2) := by rw [hw2]; exact hsk.out.drewN q1
          have hcw2 : ∀ t, t < N → w2.cell? ⟨blk, off + t, none⟩ = some (.int .u64 (G t)) := by rw [hw2]; exact hcw
          have hfw2 : ∀ t, t < N → w2.frozen? ⟨blk, off + t, none⟩ = false := by rw [hw2]; exact hfw
          clear hw2 hcw hfw
          go_big_quiet (first | (go_at_call 73; refine Calls.quiet_of_same (less_any _ _ _)))
          go_wp2_with fail
          · have hS : ltInt (G (first + r)) (G (first + (2 * r + 2))) = false := by
              first | assumption | (simpa using (show (!ltInt (G (first + r)) (G (first + (2 * r + 2)))) = true by assumption))
            (try simp only [Exit.inBlock, Exit.then]); refine bodyPost_ret (results_none rfl _ _ _) rfl ?_
            exact ⟨rfl, by rw [← hO.out, sd_right_stop ltInt dk h1 (by rw [← hG.out, ← hG.out]; exact hL) (by rw [← hG.out, ← hG.out]; exact hS)]; exact hs2.out.drewN nq⟩
          · have hS : ltInt (G (first + r)) (G (first + (2 * r + 2))) = true := by
              first | assumption | (simpa using (show (!ltInt (G (first + r)) (G (first + (2 * r + 2)))) = false by assumption))
            go_region
            all_goals go_wp2
            go_roundw
            case rel =>
              refine ⟨2 * r + 2, Sort.swp dk (first + r) (first + (2 * r + 2)), by simp <;> omega, by omega, SU.swp R.out (hs2.out.drewN (nq + 1)) (by omega) (by omega) (hG.out _) (hG.out _), ?_⟩
              rw [← hO.out, sd_right_go ltInt dk h1 (by rw [← hG.out, ← hG.out]; exact hL) (by rw [← hG.out, ← hG.out]; exact hS)]
            case measure => simp [intOf]; omega
        · have hL : ltInt (G (first + (2 * r + 1))) (G (first + (2 * r + 2))) = false := by assumption
          revert nq; intro q1
          obtain ⟨w2, hw2⟩ : ∃ w2, w2 = wr.drewN q1 := ⟨_, rfl⟩
          rw [← hw2]
          have hs2 : Hid (SU w0 blk off N dk w2) := by rw [hw2]; exact hsk.out.drewN q1
          have hcw2 : ∀ t, t < N → w2.cell? ⟨blk, off + t, none⟩ = some (.int .u64 (G t)) := by rw [hw2]; exact hcw
          have hfw2 : ∀ t, t < N → w2.frozen? ⟨blk, off + t, none⟩ = false := by rw [hw2]; exact hfw
          clear hw2 hcw hfw
          go_big_quiet (first | (go_at_call 73; refine Calls.quiet_of_same (less_any _ _ _)))
          go_wp2_with fail
          · have hS : ltInt (G (first + r)) (G (first + (2 * r + 1))) = false := by
              first | assumption | (simpa using (show (!ltInt (G (first + r)) (G (first + (2 * r + 1)))) = true by assumption))
            (try simp only [Exit.inBlock, Exit.then]); refine bodyPost_ret (results_none rfl _ _ _) rfl ?_
            exact ⟨rfl, by rw [← hO.out, sd_left_stop ltInt dk (by omega) (fun _ => by rw [← hG.out, ← hG.out]; exact hL) (by rw [← hG.out, ← hG.out]; exact hS)]; exact hs2.out.drewN nq⟩
          · have hS : ltInt (G (first + r)) (G (first + (2 * r + 1))) = true := by
              first | assumption | (simpa using (show (!ltInt (G (first + r)) (G (first + (2 * r + 1)))) = false by assumption))
            go_region
            all_goals go_wp2
            go_roundw
            case rel =>
              refine ⟨2 * r + 1, Sort.swp dk (first + r) (first + (2 * r + 1)), by simp <;> omega, by omega, SU.swp R.out (hs2.out.drewN (nq + 1)) (by omega) (by omega) (hG.out _) (hG.out _), ?_⟩
              rw [← hO.out, sd_left_go ltInt dk (by omega) (fun _ => by rw [← hG.out, ← hG.out]; exact hL) (by rw [← hG.out, ← hG.out]; exact hS)]
            case measure => simp [intOf]; omega
      · have h1z : decide (2 * (r : Int) + 1 + 1 < (hi : Int)) = false := decide_eq_false (by omega)
        go_wp2_with fail
        go_big_quiet (first | (go_at_call 73; refine Calls.quiet_of_same (less_any _ _ _)))
        go_wp2_with fail
        revert nq; intro q1
        obtain ⟨w2, hw2⟩ : ∃ w2, w2 = wr.drewN q1 := ⟨_, rfl⟩
        rw [← hw2]
        have hs2 : Hid (SU w0 blk off N dk w2) := by rw [hw2]; exact hsk.out.drewN q1
        have hcw2 : ∀ t, t < N → w2.cell? ⟨blk, off + t, none⟩ = some (.int .u64 (G t)) := by rw [hw2]; exact hcw
        have hfw2 : ∀ t, t < N → w2.frozen? ⟨blk, off + t, none⟩ = false := by rw [hw2]; exact hfw
        clear hw2 hcw hfw
        go_big_quiet (first | (go_at_call 73; refine Calls.quiet_of_same (less_any _ _ _)))
        go_wp2_with fail
        · have hS : ltInt (G (first + r)) (G (first + (2 * r + 1))) = false := by
            first | assumption | (simpa using (show (!ltInt (G (first + r)) (G (first + (2 * r + 1)))) = true by assumption))
          (try simp only [Exit.inBlock, Exit.then]); refine bodyPost_ret (results_none rfl _ _ _) rfl ?_
          exact ⟨rfl, by rw [← hO.out, sd_left_stop ltInt dk (by omega) (fun hh => absurd hh h1) (by rw [← hG.out, ← hG.out]; exact hS)]; exact hs2.out.drewN nq⟩
        · have hS : ltInt (G (first + r)) (G (first + (2 * r + 1))) = true := by
            first | assumption | (simpa using (show (!ltInt (G (first + r)) (G (first + (2 * r + 1)))) = false by assumption))
          go_region
          all_goals go_wp2
          go_roundw
          case rel =>
            refine ⟨2 * r + 1, Sort.swp dk (first + r) (first + (2 * r + 1)), by simp <;> omega, by omega, SU.swp R.out (hs2.out.drewN (nq + 1)) (by omega) (by omega) (hG.out _) (hG.out _), ?_⟩
            rw [← hO.out, sd_left_go ltInt dk (by omega) (fun hh => absurd hh h1) (by rw [← hG.out, ← hG.out]; exact hS)]
          case measure => simp [intOf]; omega
end Go.Proofs.YbulkcoecFmt
