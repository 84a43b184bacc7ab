import Derived.Test.YbulkcoecFmtSortBase
namespace Go.Proofs.YbulkcoecFmt
open Go.RowKit Go.Sort
set_option linter.unusedVariables false
set_option linter.unusedSimpArgs false

set_option maxRecDepth 100000 in
set_option maxHeartbeats 16000000 in
/-- partitionEqualOrdered at uint64. -/
theorem parteq_any {w0 W : World} {blk off N : Nat} {d : Array Int} (R : RowU w0 blk off N) (h : SU w0 blk off N d W) (hN : N < 4611686018427387904) {a b pv : Nat} (hap : a ≤ pv) (hpb : pv < b) (hb : b ≤ N) (cap : Nat) :
    Calls Ybaf.prog 74 #[.slice (some ⟨blk, off, none⟩) N cap, .int .i64 a, .int .i64 b, .int .i64 pv] W fun e w' => e = .returned (.int .i64 (partitionEqual ltInt d a b pv).1) ∧ SU w0 blk off N (partitionEqual ltInt d a b pv).2 w' := by
  have R : Hid (RowU w0 blk off N) := R
  have hla : a < N := by omega
  have hlp : pv < N := by omega
  obtain ⟨G, hG, hcw, hfw⟩ := SU.fam R.out h
  obtain ⟨v', hy'⟩ := cell?_setCell_some (w := W) (p := ⟨blk, off + a, none⟩) (x := .int .u64 (G pv)) (q := ⟨blk, off + pv, none⟩) (hcw pv hlp)
  have h : Hid (SU w0 blk off N d W) := h
  go_enter Ybaf.func74, Ybaf.ntmps74
  go_wp2
  go_region
  go_wp2
  go_loopw [9, 10] (fun vi vj wr => ∃ (i j : Nat) (dk : Array Int), vi = .int .i64 i ∧ vj = .int .i64 j ∧ a < i ∧ i ≤ j + 1 ∧ j < b ∧ SU w0 blk off N dk wr ∧
      partEqLoop ltInt a i j dk = partitionEqual ltInt d a b pv) (fun vi vj _ => (intOf vj).toNat + 1 - (intOf vi).toNat)
  case atStart => exact ⟨a + 1, b - 1, Sort.swp d a pv, by go_num, by go_num, by omega, by omega, by omega, SU.swp R.out (h.out.drewN 1) hla hlp (hG.out _) (hG.out _), rfl⟩
  case round =>
    clear hy' hcw hfw hG h
    obtain ⟨i, j, dk, rfl, rfl, hai, hij, hjb, hs, hO⟩ := hrel
    obtain ⟨G, hG, hcw, hfw⟩ := SU.fam R.out hs
    have hO : Hid (partEqLoop ltInt a i j dk = partitionEqual ltInt d a b pv) := hO
    have hs : Hid (SU w0 blk off N dk wr) := hs
    clear hcw hfw
    go_wp2
    go_loopw [9] (fun vi w1 => ∃ i' : Nat, vi = .int .i64 i' ∧ i ≤ i' ∧ i' ≤ j + 1 ∧ SU w0 blk off N dk w1 ∧ Hid (scanUp (fun x => !ltInt dk[a]! x) dk j i' = scanUp (fun x => !ltInt dk[a]! x) dk j i)) (fun vi _ => j + 1 - (intOf vi).toNat)
    case atStart => exact ⟨i, rfl, Nat.le_refl _, hij, hs.out, rfl⟩
    case round =>
      obtain ⟨i', rfl, hii, hij', hs1, hsc⟩ := hrel
      have hcw := SU.cw R.out hG hs1
      have hs1 : Hid (SU w0 blk off N dk wr) := hs1
      by_cases hle : i' ≤ j
      · go_wp2_with fail
        go_big_quiet (first | (go_at_call 73; refine Calls.quiet_of_same (less_any _ _ _)))
        go_wp2
        · have ht : (!ltInt (G a) (G i')) = true := by assumption
          go_roundw
          case rel => exact ⟨i' + 1, by go_num, by omega, by omega, hs1.out.drewN nq, (scanUp_go (fun x => !ltInt dk[a]! x) dk j i' hle (by first | (show (!ltInt (dk[a]!) (dk[i']!)) = true; rw [← hG.out a, ← hG.out i']; exact ht))).symm.trans hsc.out⟩
          case measure => simp [intOf]; omega
        · have ht : (!ltInt (G a) (G i')) = false := by assumption
          have hi2 : Hid (i' = scanUp (fun x => !ltInt dk[a]! x) dk j i) := (scanUp_end (fun x => !ltInt dk[a]! x) dk j i' (Or.inr (by show (!ltInt (dk[a]!) (dk[i']!)) = false; rw [← hG.out a, ← hG.out i']; exact ht))).symm.trans hsc.out
          have hs2 : Hid (SU w0 blk off N dk (wr.drewN nq)) := hs1.out.drewN nq
          clear ht hcw hs1 hsc
          go_loopw [10] (fun vj w2 => ∃ j' : Nat, vj = .int .i64 j' ∧ j' ≤ j ∧ i' ≤ j' + 1 ∧ SU w0 blk off N dk w2 ∧ Hid (scanDown (fun x => ltInt dk[a]! x) dk i' j' = scanDown (fun x => ltInt dk[a]! x) dk i' j)) (fun vj _ => (intOf vj).toNat)
          case atStart => exact ⟨j, rfl, Nat.le_refl _, hij', hs2.out, rfl⟩
          case round =>
            obtain ⟨j', rfl, hjj, hij2, hs3, hsd⟩ := hrel
            have hcw := SU.cw R.out hG hs3
            have hs3 : Hid (SU w0 blk off N dk wr) := hs3
            by_cases hle2 : i' ≤ j'
            · go_wp2_with fail
              go_big_quiet (first | (go_at_call 73; refine Calls.quiet_of_same (less_any _ _ _)))
              go_wp2
              · have ht : ltInt (G a) (G j') = true := by assumption
                go_roundw
                case rel => exact ⟨j' - 1, by go_num, by omega, by omega, hs3.out.drewN nq, (scanDown_go (fun x => ltInt dk[a]! x) dk i' j' hle2 (by omega) (by show ltInt (dk[a]!) (dk[j']!) = true; rw [← hG.out a, ← hG.out j']; exact ht)).symm.trans hsd.out⟩
                case measure => simp [intOf]; omega
              · have ht : ltInt (G a) (G j') = false := by assumption
                have hj2 : Hid (j' = scanDown (fun x => ltInt dk[a]! x) dk i' j) := (scanDown_end (fun x => ltInt dk[a]! x) dk i' j' (Or.inr (by show ltInt (dk[a]!) (dk[j']!) = false; rw [← hG.out a, ← hG.out j']; exact ht))).symm.trans hsd.out
                clear ht hcw hsd
                obtain ⟨w4, hw4⟩ : ∃ w4, w4 = wr.drewN nq := ⟨_, rfl⟩
                rw [← hw4]
                have hs4 : SU w0 blk off N dk w4 := by rw [hw4]; exact hs3.out.drewN nq
                clear hw4 hs3
                have hc4 := SU.cw R.out hG hs4
                have hf4 := SU.fw R.out hs4
                have hs4 : Hid (SU w0 blk off N dk w4) := hs4
                have hlt3 : i' < j' := scans_lt ltInt a i j dk (by omega) hi2.out hj2.out hle2
                obtain ⟨v3, hy3⟩ := cell?_setCell_some (w := w4) (p := ⟨blk, off + i', none⟩) (x := .int .u64 (G j')) (q := ⟨blk, off + j', none⟩) (hc4 j' (by omega))
                go_wp2
                go_region
                all_goals go_wp2
                all_goals go_roundw
                case rel =>
                  refine ⟨i' + 1, j' - 1, Sort.swp dk i' j', by go_num, by go_num, by omega, by omega, by omega, SU.swp R.out (hs4.out.drewN 1) (by omega) (by omega) (hG.out _) (hG.out _), ?_⟩
                  rw [← hO.out]; exact (partEq_go ltInt a i j dk hi2.out hj2.out (by omega)).symm
                case measure => simp [intOf]; omega
            · go_wp2_with fail
              go_big_quiet (first | (go_at_call 73; refine Calls.quiet_of_same (less_any _ _ _)))
              have hj2 : Hid (j' = scanDown (fun x => ltInt dk[a]! x) dk i' j) := (scanDown_end (fun x => ltInt dk[a]! x) dk i' j' (Or.inl hle2)).symm.trans hsd.out
              clear hcw hsd
              obtain ⟨w4, hw4⟩ : ∃ w4, w4 = wr.drewN nq := ⟨_, rfl⟩
              rw [← hw4]
              have hs4 : SU w0 blk off N dk w4 := by rw [hw4]; exact hs3.out.drewN nq
              clear hw4 hs3
              have hc4 := SU.cw R.out hG hs4
              have hf4 := SU.fw R.out hs4
              have hs4 : Hid (SU w0 blk off N dk w4) := hs4
              go_wp2
              go_ret
              have e := partEq_break ltInt a i j dk hi2.out hj2.out (by omega)
              exact ⟨by rw [← hO.out, e]; rfl, by rw [← hO.out, e]; exact hs4.out⟩
      · go_wp2_with fail
        go_big_quiet (first | (go_at_call 73; refine Calls.quiet_of_same (less_any _ _ _)))
        go_wp2
        have hi2 : Hid (i' = scanUp (fun x => !ltInt dk[a]! x) dk j i) := (scanUp_end (fun x => !ltInt dk[a]! x) dk j i' (Or.inl hle)).symm.trans hsc.out
        have hs2 : Hid (SU w0 blk off N dk (wr.drewN nq)) := hs1.out.drewN nq
        clear hcw hs1 hsc
        go_loopw [10] (fun vj w2 => ∃ j' : Nat, vj = .int .i64 j' ∧ j' ≤ j ∧ i' ≤ j' + 1 ∧ SU w0 blk off N dk w2 ∧ Hid (scanDown (fun x => ltInt dk[a]! x) dk i' j' = scanDown (fun x => ltInt dk[a]! x) dk i' j)) (fun vj _ => (intOf vj).toNat)
        case atStart => exact ⟨j, rfl, Nat.le_refl _, hij', hs2.out, rfl⟩
        case round =>
          obtain ⟨j', rfl, hjj, hij2, hs3, hsd⟩ := hrel
          have hcw := SU.cw R.out hG hs3
          have hs3 : Hid (SU w0 blk off N dk wr) := hs3
          by_cases hle2 : i' ≤ j'
          · exfalso; omega
          · go_wp2_with fail
            go_big_quiet (first | (go_at_call 73; refine Calls.quiet_of_same (less_any _ _ _)))
            have hj2 : Hid (j' = scanDown (fun x => ltInt dk[a]! x) dk i' j) := (scanDown_end (fun x => ltInt dk[a]! x) dk i' j' (Or.inl hle2)).symm.trans hsd.out
            clear hcw hsd
            obtain ⟨w4, hw4⟩ : ∃ w4, w4 = wr.drewN nq := ⟨_, rfl⟩
            rw [← hw4]
            have hs4 : SU w0 blk off N dk w4 := by rw [hw4]; exact hs3.out.drewN nq
            clear hw4 hs3
            have hc4 := SU.cw R.out hG hs4
            have hf4 := SU.fw R.out hs4
            have hs4 : Hid (SU w0 blk off N dk w4) := hs4
            go_wp2
            go_ret
            have e := partEq_break ltInt a i j dk hi2.out hj2.out (by omega)
            exact ⟨by rw [← hO.out, e]; rfl, by rw [← hO.out, e]; exact hs4.out⟩
end Go.Proofs.YbulkcoecFmt
