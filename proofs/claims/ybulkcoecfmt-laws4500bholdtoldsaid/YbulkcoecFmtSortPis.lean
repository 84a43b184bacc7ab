import Derived.Test.YbulkcoecFmtSortBase
import Derived.Sort.WalkA6
import Derived.Deep.CutRange
import Derived.Deep.DeepCutAuto
namespace Go.Proofs.YbulkcoecFmt
open Go.RowKit Go.Sort
set_option linter.unusedVariables false
set_option linter.unusedSimpArgs false

set_option maxRecDepth 100000 in
set_option maxHeartbeats 32000000 in
/-- partialInsertionSortOrdered at uint64. -/
theorem pis_any {w0 W : World} {blk off N : Nat} {d : Array Int} (R : RowU w0 blk off N) (h : SU w0 blk off N d W) (hN : N < 4611686018427387904) {a b : Nat} (hab : a < b) (hb : b ≤ N) (cap : Nat) :
    Calls Ybaf.prog 72 #[.slice (some ⟨blk, off, none⟩) N cap, .int .i64 a, .int .i64 b] W fun e w' => e = .returned (.bool (partialInsertionSort ltInt d a b).2) ∧ SU w0 blk off N (partialInsertionSort ltInt d a b).1 w' := by
  have R : Hid (RowU w0 blk off N) := R
  have h : Hid (SU w0 blk off N d W) := h
  go_enter Ybaf.func72, Ybaf.ntmps72
  go_wp2
  go_loopw [7, 8] (fun vi vs wr => ∃ (i s : Nat) (dk : Array Int), vi = .int .i64 i ∧ vs = .int .i64 s ∧ s ≤ 5 ∧ a < i ∧ i ≤ b ∧ SU w0 blk off N dk wr ∧
      partialIns ltInt a b (5 - s) i dk = partialInsertionSort ltInt d a b) (fun _ vs _ => 5 - (intOf vs).toNat)
  case atStart => exact ⟨a + 1, 0, d, by go_num, rfl, by omega, by omega, by omega, h.out, rfl⟩
  case round =>
    obtain ⟨i, s, dk, rfl, rfl, hs5, hai, hib, hs, hO⟩ := hrel
    obtain ⟨G, hG, hcw0, hfw0⟩ := SU.fam R.out hs
    clear hcw0 hfw0
    have hs : Hid (SU w0 blk off N dk wr) := hs
    have hO : Hid (partialIns ltInt a b (5 - s) i dk = partialInsertionSort ltInt d a b) := hO
    by_cases hs5' : s = 5
    · subst hs5'
      go_wp2
      go_ret
      exact ⟨by rw [← hO.out]; rfl, by rw [← hO.out]; exact hs.out⟩
    · have hs4 : s < 5 := by omega
      go_wp2
      go_loopw [7] (fun vi wr2 => ∃ k : Nat, vi = .int .i64 k ∧ i ≤ k ∧ k ≤ b ∧ SU w0 blk off N dk wr2 ∧ Hid (scanSorted ltInt dk b k = scanSorted ltInt dk b i)) (fun vi _ => b - (intOf vi).toNat)
      case atStart => exact ⟨i, rfl, Nat.le_refl _, hib, hs.out, rfl⟩
      case round =>
        obtain ⟨k, rfl, hik, hkb, hsk, hS⟩ := hrel
        have hcw := SU.cw R.out hG hsk
        have hsk : Hid (SU w0 blk off N dk wr) := hsk
        go_wp2
        by_cases hkb' : k < b
        · have key : Hid (ltInt (G k) (G (k - 1)) = false → scanSorted ltInt dk b (k + 1) = scanSorted ltInt dk b i) := fun hl => by
            rw [← hS.out, scanSorted_go ltInt dk b k hkb' (by rw [← hG.out, ← hG.out]; exact hl)]
          have key2 : Hid (ltInt (G k) (G (k - 1)) = true → scanSorted ltInt dk b i = k) := fun hl => by
            rw [← hS.out, scanSorted_stop ltInt dk b k (Or.inr (by rw [← hG.out, ← hG.out]; exact hl))]
          cases hl : ltInt (G k) (G (k - 1)) with
          | false =>
            go_quiet (first | (go_at_call 73; refine Calls.quiet_of_same (less_any _ _ _)))
            go_wp2_with fail
            go_roundw
            case rel => exact ⟨k + 1, by go_num, by omega, by omega, hsk.out.drewN nq, key.out hl⟩
            case measure => simp [intOf]; omega
          | true =>
            have hK : Hid (scanSorted ltInt dk b i = k) := key2.out hl
            clear key key2
            by_cases h50 : b - a < 50
            · go_quiet (first | (go_at_call 73; refine Calls.quiet_of_same (less_any _ _ _)))
              go_wp2_with fail
              go_ret
              have e := pi_short ltInt a b s i dk hs4 (by rw [hK.out]; omega) h50
              exact ⟨by rw [← hO.out, e]; rfl, by rw [← hO.out, e]; exact hsk.out.drewN nq⟩
            · have e : Hid (partialIns ltInt a b (5 - s) i dk = partialIns ltInt a b (5 - (s + 1)) k (fixUp ltInt b k (fixDown ltInt a k (Sort.swp dk k (k - 1))))) := pi_go ltInt a b s i k dk hs4 hK.out (by omega) h50
              go_quiet (first | (go_at_call 73; refine Calls.quiet_of_same (less_any _ _ _)))
              go_wp2_with fail
              obtain ⟨w4, hw4⟩ : ∃ w4, w4 = wr.drewN nq := ⟨_, rfl⟩
              rw [← hw4]
              have h4 : SU w0 blk off N dk w4 := by rw [hw4]; exact hsk.out.drewN nq
              clear hw4 hcw
              have hc4 := SU.cw R.out hG h4
              have hf4 := SU.fw R.out h4
              have h4 : Hid (SU w0 blk off N dk w4) := h4
              go_region
              go_upto_if 61 with (fail)
              have h5 : SU w0 blk off N (Sort.swp dk k (k - 1)) _ := SU.swp R.out (h4.out.drewN 1) (i := k) (j := k - 1) (by omega) (by omega) (hG.out _) (hG.out _)
              obtain ⟨d5, hd5⟩ : ∃ d5, d5 = Sort.swp dk k (k - 1) := ⟨_, rfl⟩
              rw [← hd5] at h5 e
              clear hc4 hf4
              have h5 : Hid (SU w0 blk off N d5 _) := h5
              go_cut [] (fun wx => SU w0 blk off N (fixDown ltInt a k d5) wx)
              case first =>
                by_cases hk2 : k - a ≥ 2
                · have hk2z : (2 : Int) ≤ (k : Int) - (a : Int) := by omega
                  go_wp2_with fail
                  go_loopw [9] (fun vj wr2 => ∃ (j : Nat) (dj : Array Int), vj = .int .i64 j ∧ j ≤ k - 1 ∧ SU w0 blk off N dj wr2 ∧ Hid (shiftDown ltInt j dj = shiftDown ltInt (k - 1) d5)) (fun vj _ => (intOf vj).toNat)
                  case atStart => exact ⟨k - 1, d5, by go_num, by omega, h5.out, rfl⟩
                  case round =>
                    obtain ⟨j, dj, rfl, hjb, hsj, hI⟩ := hrel
                    obtain ⟨G5, hG5, hcw5, hfw5⟩ := SU.fam R.out hsj
                    have hsj : Hid (SU w0 blk off N dj wr) := hsj
                    by_cases hj1 : 1 ≤ j
                    · go_wp2_with fail
                      go_quiet (first | (go_at_call 73; refine Calls.quiet_of_same (less_any _ _ _)))
                      cases hl : ltInt (G5 j) (G5 (j - 1)) with
                      | false =>
                        go_wp2_with fail
                        go_meet

                        have e2 := shiftDown_stop ltInt j dj (Or.inr (by rw [← hG5.out, ← hG5.out]; exact hl))
                        rw [hI.out] at e2
                        show SU w0 blk off N (fixDown ltInt a k d5) _
                        unfold fixDown
                        rw [if_pos (by omega), e2]
                        exact hsj.out.drewN nq
                      | true =>
                        go_wp2_with fail
                        obtain ⟨w4, hw4⟩ : ∃ w4, w4 = wr.drewN nq := ⟨_, rfl⟩
                        rw [← hw4]
                        have h4 : SU w0 blk off N dj w4 := by rw [hw4]; exact hsj.out.drewN nq
                        clear hw4 hcw5 hfw5
                        have hc4 := SU.cw R.out hG5 h4
                        have hf4 := SU.fw R.out h4
                        have h4 : Hid (SU w0 blk off N dj w4) := h4
                        go_region
                        all_goals go_wp2_with fail
                        go_roundw
                        case rel => exact ⟨j - 1, Sort.swp dj j (j - 1), by go_num, by omega, SU.swp R.out (h4.out.drewN 1) (by omega) (by omega) (hG5.out _) (hG5.out _), by rw [← hI.out, shiftDown_go ltInt j dj hj1 (by rw [← hG5.out, ← hG5.out]; exact hl)]; rfl⟩
                        case measure => simp [intOf]; omega
                    · go_wp2_with fail
                      go_meet

                      have e2 := shiftDown_stop ltInt j dj (Or.inl (by omega))
                      rw [hI.out] at e2
                      show SU w0 blk off N (fixDown ltInt a k d5) _
                      unfold fixDown
                      rw [if_pos (by omega), e2]
                      exact hsj.out
                · have hk2z : ¬ ((2 : Int) ≤ (k : Int) - (a : Int)) := by omega
                  go_wp2_with fail
                  go_meet
                  show SU w0 blk off N (fixDown ltInt a k d5) _
                  unfold fixDown
                  rw [if_neg hk2]
                  exact h5.out
              case rest =>
                obtain ⟨d6, hd6⟩ : ∃ d6, d6 = fixDown ltInt a k d5 := ⟨_, rfl⟩
                rw [← hd6] at hcut e
                have h6 : Hid (SU w0 blk off N d6 wc) := hcut
                clear hcut
                by_cases hk2 : b - k ≥ 2
                · have hk2z : (2 : Int) ≤ (b : Int) - (k : Int) := by omega
                  go_wp2_with fail
                  go_loopw [10] (fun vj wr2 => ∃ (j : Nat) (dj : Array Int), vj = .int .i64 j ∧ (k + 1 ≤ j ∧ j ≤ b) ∧ SU w0 blk off N dj wr2 ∧ Hid (shiftUp ltInt b j dj = shiftUp ltInt b (k + 1) d6)) (fun vj _ => b - (intOf vj).toNat)
                  case atStart => exact ⟨k + 1, d6, by go_num, by omega, h6.out, rfl⟩
                  case round =>
                    obtain ⟨j, dj, rfl, hjb, hsj, hI⟩ := hrel
                    obtain ⟨G5, hG5, hcw5, hfw5⟩ := SU.fam R.out hsj
                    have hsj : Hid (SU w0 blk off N dj wr) := hsj
                    by_cases hj1 : j < b
                    · go_wp2_with fail
                      go_quiet (first | (go_at_call 73; refine Calls.quiet_of_same (less_any _ _ _)))
                      cases hl : ltInt (G5 j) (G5 (j - 1)) with
                      | false =>
                        go_wp2_with fail
                        go_roundw
                        case measure => simp [intOf]; omega
                        have e2 := shiftUp_stop ltInt b j dj (Or.inr (by rw [← hG5.out, ← hG5.out]; exact hl))
                        rw [hI.out] at e2
                        refine ⟨k, s + 1, fixUp ltInt b k d6, rfl, by go_num, by omega, by omega, by omega, ?_, by rw [← hO.out, e.out]⟩
                        unfold fixUp
                        rw [if_pos (by omega), e2]
                        exact hsj.out.drewN nq
                      | true =>
                        go_wp2_with fail
                        obtain ⟨w4, hw4⟩ : ∃ w4, w4 = wr.drewN nq := ⟨_, rfl⟩
                        rw [← hw4]
                        have h4 : SU w0 blk off N dj w4 := by rw [hw4]; exact hsj.out.drewN nq
                        clear hw4 hcw5 hfw5
                        have hc4 := SU.cw R.out hG5 h4
                        have hf4 := SU.fw R.out h4
                        have h4 : Hid (SU w0 blk off N dj w4) := h4
                        go_region
                        all_goals go_wp2_with fail
                        go_roundw
                        case rel => exact ⟨j + 1, Sort.swp dj j (j - 1), by go_num, by omega, SU.swp R.out (h4.out.drewN 1) (by omega) (by omega) (hG5.out _) (hG5.out _), by rw [← hI.out, shiftUp_go ltInt b j dj hj1 (by rw [← hG5.out, ← hG5.out]; exact hl)]; rfl⟩
                        case measure => simp [intOf]; omega
                    · go_wp2_with fail
                      go_roundw
                      case measure => simp [intOf]; omega
                      have e2 := shiftUp_stop ltInt b j dj (Or.inl (by omega))
                      rw [hI.out] at e2
                      refine ⟨k, s + 1, fixUp ltInt b k d6, rfl, by go_num, by omega, by omega, by omega, ?_, by rw [← hO.out, e.out]⟩
                      unfold fixUp
                      rw [if_pos (by omega), e2]
                      exact hsj.out
                · have hk2z : ¬ ((2 : Int) ≤ (b : Int) - (k : Int)) := by omega
                  go_wp2_with fail
                  go_roundw
                  case measure => simp [intOf]; omega
                  refine ⟨k, s + 1, fixUp ltInt b k d6, rfl, by go_num, by omega, by omega, by omega, ?_, by rw [← hO.out, e.out]⟩
                  unfold fixUp
                  rw [if_neg hk2]
                  exact h6.out
        · have hK : Hid (scanSorted ltInt dk b i = b) := by
            show scanSorted ltInt dk b i = b
            rw [← hS.out, scanSorted_stop ltInt dk b k (Or.inl hkb')]; omega
          have hkb2 : k = b := by omega
          subst hkb2
          go_quiet (first | (go_at_call 73; refine Calls.quiet_of_same (less_any _ _ _)))
          go_wp2_with fail
          go_ret
          have e := pi_true ltInt a k s i dk hs4 hK.out
          exact ⟨by rw [← hO.out, e]; rfl, by rw [← hO.out, e]; exact hsk.out.drewN nq⟩
end Go.Proofs.YbulkcoecFmt
