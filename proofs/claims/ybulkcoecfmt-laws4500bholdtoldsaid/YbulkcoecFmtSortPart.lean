import Derived.Test.YbulkcoecFmtSortBase
namespace Go.Proofs.YbulkcoecFmt
open Go.RowKit Go.Sort
set_option linter.unusedVariables false
set_option linter.unusedSimpArgs false

set_option maxRecDepth 100000 in
set_option maxHeartbeats 32000000 in
/-- partitionOrdered at uint64. -/
theorem part_any {w0 W : World} {blk off N : Nat} {d : Array Int} (R : RowU w0 blk off N) (h : SU w0 blk off N d W) (hN : N < 4611686018427387904) {a b pv : Nat} (hap : a ≤ pv) (hpb : pv < b) (hb : b ≤ N) (cap : Nat) :
    Calls Ybaf.prog 75 #[.slice (some ⟨blk, off, none⟩) N cap, .int .i64 a, .int .i64 b, .int .i64 pv] W fun e w' => e = .returned (.tuple #[.int .i64 (partition ltInt d a b pv).1, .bool (partition ltInt d a b pv).2.1]) ∧ SU w0 blk off N (partition ltInt d a b pv).2.2 w' := by
  have R : Hid (RowU w0 blk off N) := R
  have hla : a < N := by omega
  have hlp : pv < N := by omega
  obtain ⟨G0, hG0, hcw0, hfw0⟩ := SU.fam R.out h
  obtain ⟨v', hy'⟩ := cell?_setCell_some (w := W) (p := ⟨blk, off + a, none⟩) (x := .int .u64 (G0 pv)) (q := ⟨blk, off + pv, none⟩) (hcw0 pv hlp)
  have h : Hid (SU w0 blk off N d W) := h
  go_enter Ybaf.func75, Ybaf.ntmps75
  go_wp2
  go_region
  go_wp2
  obtain ⟨dk, hdk⟩ : ∃ dk, dk = Sort.swp d a pv := ⟨_, rfl⟩
  obtain ⟨i, hi⟩ : ∃ i, i = a + 1 := ⟨_, rfl⟩
  obtain ⟨j, hj⟩ : ∃ j, j = b - 1 := ⟨_, rfl⟩
  have hij : i ≤ j + 1 := by omega
  have hs := (SU.swp R.out (h.out.drewN 1) hla hlp (hG0.out pv) (hG0.out a))
  rw [← hdk] at hs
  obtain ⟨G, hG, hcw, hfw⟩ := SU.fam R.out hs
  have hs : Hid (SU w0 blk off N dk _) := hs
  clear hcw hfw hcw0 hfw0 hG0 hy' h
  have hdk : Hid (dk = Sort.swp d a pv) := hdk
  have hi1 : Hid (i = a + 1) := hi
  have hj1 : Hid (j = b - 1) := hj
  have ei : ((a : Int) + 1) = (i : Int) := by omega
  have ej : ((b : Int) - 1) = (j : Int) := by omega
  rw [ei, ej]
  clear hi hj ei ej
  have hai : a < i := by have := hi1.out; omega
  have hjb : j < b := by have := hj1.out; omega
  go_loopw [10] (fun vi w1 => ∃ i' : Nat, vi = .int .i64 i' ∧ i ≤ i' ∧ i' ≤ j + 1 ∧ SU w0 blk off N dk w1 ∧ Hid (scanUp (fun x => ltInt x dk[a]!) dk j i' = scanUp (fun x => ltInt x dk[a]!) dk j i)) (fun vi _ => j + 1 - (intOf vi).toNat)
  case atStart => exact ⟨i, rfl, Nat.le_refl _, hij, hs.out, rfl⟩
  case round =>
    obtain ⟨i', rfl, hii, hij', hs1, hsc⟩ := hrel
    have hcw := SU.cw R.out hG hs1
    have hs1 : Hid (SU w0 blk off N dk wr) := hs1
    by_cases hle : i' ≤ j
    · go_wp2_with fail
      go_big_quiet (first | (go_at_call 73; refine Calls.quiet_of_same (less_any _ _ _)))
      go_wp2
      · have ht : ltInt (G i') (G a) = true := by assumption
        go_roundw
        case rel => exact ⟨i' + 1, by go_num, by omega, by omega, hs1.out.drewN nq, (scanUp_go (fun x => ltInt x dk[a]!) dk j i' hle (by first | (show ltInt (dk[i']!) (dk[a]!) = true; rw [← hG.out a, ← hG.out i']; exact ht))).symm.trans hsc.out⟩
        case measure => simp [intOf]; omega
      · have ht : ltInt (G i') (G a) = false := by assumption
        have hi2 : Hid (i' = scanUp (fun x => ltInt x dk[a]!) dk j i) := (scanUp_end (fun x => ltInt x dk[a]!) dk j i' (Or.inr (by show ltInt (dk[i']!) (dk[a]!) = false; rw [← hG.out a, ← hG.out i']; exact ht))).symm.trans hsc.out
        have hs2 : Hid (SU w0 blk off N dk (wr.drewN nq)) := hs1.out.drewN nq
        clear ht hcw hs1 hsc
        go_loopw [11] (fun vj w2 => ∃ j' : Nat, vj = .int .i64 j' ∧ j' ≤ j ∧ i' ≤ j' + 1 ∧ SU w0 blk off N dk w2 ∧ Hid (scanDown (fun x => !ltInt x dk[a]!) dk i' j' = scanDown (fun x => !ltInt x dk[a]!) dk i' j)) (fun vj _ => (intOf vj).toNat)
        case atStart => exact ⟨j, rfl, Nat.le_refl _, hij', hs2.out, rfl⟩
        case round =>
          obtain ⟨j', rfl, hjj, hij2, hs3, hsd⟩ := hrel
          have hcw := SU.cw R.out hG hs3
          have hs3 : Hid (SU w0 blk off N dk wr) := hs3
          by_cases hle2 : i' ≤ j'
          · go_wp2_with fail
            go_big_quiet (first | (go_at_call 73; refine Calls.quiet_of_same (less_any _ _ _)))
            go_wp2
            · have ht : (!ltInt (G j') (G a)) = true := by assumption
              go_roundw
              case rel => exact ⟨j' - 1, by go_num, by omega, by omega, hs3.out.drewN nq, (scanDown_go (fun x => !ltInt x dk[a]!) dk i' j' hle2 (by omega) (by show (!ltInt (dk[j']!) (dk[a]!)) = true; rw [← hG.out a, ← hG.out j']; exact ht)).symm.trans hsd.out⟩
              case measure => simp [intOf]; omega
            · have ht : (!ltInt (G j') (G a)) = false := by assumption
              have hj2 : Hid (j' = scanDown (fun x => !ltInt x dk[a]!) dk i' j) := (scanDown_end (fun x => !ltInt x dk[a]!) dk i' j' (Or.inr (by show (!ltInt (dk[j']!) (dk[a]!)) = false; rw [← hG.out a, ← hG.out j']; exact ht))).symm.trans hsd.out
              clear ht hcw hsd
              obtain ⟨w4, hw4⟩ : ∃ w4, w4 = wr.drewN nq := ⟨_, rfl⟩
              rw [← hw4]
              have hs4 : SU w0 blk off N dk w4 := by rw [hw4]; exact hs3.out.drewN nq
              clear hw4 hs3
              have hc4 := SU.cw R.out hG hs4
              have hf4 := SU.fw R.out hs4
              have hs4 : Hid (SU w0 blk off N dk w4) := hs4
              have hlt3 : i' < j' := part_scans_lt ltInt a i j dk (by omega) hi2.out hj2.out hle2
              obtain ⟨v3, hy3⟩ := cell?_setCell_some (w := w4) (p := ⟨blk, off + i', none⟩) (x := .int .u64 (G j')) (q := ⟨blk, off + j', none⟩) (hc4 j' (by omega))
              go_wp2
              go_region
              all_goals go_wp2
              have e := part_first_go ltInt d a b pv hi1.out hj1.out hdk.out hi2.out hj2.out (by omega)
              have e : Hid _ := e
              go_loopw [10, 11] (fun vi vj wr => ∃ (i j : Nat) (dk : Array Int), vi = .int .i64 i ∧ vj = .int .i64 j ∧ a < i ∧ i ≤ j + 1 ∧ j < b ∧ SU w0 blk off N dk wr ∧
                  partition ltInt d a b pv = ((partLoop ltInt a i j dk).1, false, Sort.swp (partLoop ltInt a i j dk).2 (partLoop ltInt a i j dk).1 a)) (fun vi vj _ => (intOf vj).toNat + 1 - (intOf vi).toNat)
              case atStart => exact ⟨i' + 1, j' - 1, Sort.swp dk i' j', by go_num, by go_num, by omega, by omega, by omega, SU.swp R.out (hs4.out.drewN 1) (by omega) (by omega) (hG.out _) (hG.out _), e.out⟩
              case round =>
                clear hy3 hc4 hf4 hs4 e hi2 hj2 hG hi1 hj1 hdk hij hai hjb hle hle2 hii hij' hjj hij2 hlt3
                obtain ⟨i, j, dk, rfl, rfl, hai, hij, hjb, hs, hO⟩ := hrel
                obtain ⟨G, hG, hcw, hfw⟩ := SU.fam R.out hs
                have hO : Hid (partition ltInt d a b pv = ((partLoop ltInt a i j dk).1, false, Sort.swp (partLoop ltInt a i j dk).2 (partLoop ltInt a i j dk).1 a)) := hO
                have hs : Hid (SU w0 blk off N dk wr) := hs
                clear hcw hfw
                go_wp2
                go_loopw [10] (fun vi w1 => ∃ i' : Nat, vi = .int .i64 i' ∧ i ≤ i' ∧ i' ≤ j + 1 ∧ SU w0 blk off N dk w1 ∧ Hid (scanUp (fun x => ltInt x dk[a]!) dk j i' = scanUp (fun x => ltInt x dk[a]!) dk j i)) (fun vi _ => j + 1 - (intOf vi).toNat)
                case atStart => exact ⟨i, rfl, Nat.le_refl _, hij, hs.out, rfl⟩
                case round =>
                  obtain ⟨i', rfl, hii, hij', hs1, hsc⟩ := hrel
                  have hcw := SU.cw R.out hG hs1
                  have hs1 : Hid (SU w0 blk off N dk wr) := hs1
                  by_cases hle : i' ≤ j
                  · go_wp2_with fail
                    go_big_quiet (first | (go_at_call 73; refine Calls.quiet_of_same (less_any _ _ _)))
                    go_wp2
                    · have ht : ltInt (G i') (G a) = true := by assumption
                      go_roundw
                      case rel => exact ⟨i' + 1, by go_num, by omega, by omega, hs1.out.drewN nq, (scanUp_go (fun x => ltInt x dk[a]!) dk j i' hle (by first | (show ltInt (dk[i']!) (dk[a]!) = true; rw [← hG.out a, ← hG.out i']; exact ht))).symm.trans hsc.out⟩
                      case measure => simp [intOf]; omega
                    · have ht : ltInt (G i') (G a) = false := by assumption
                      have hi2 : Hid (i' = scanUp (fun x => ltInt x dk[a]!) dk j i) := (scanUp_end (fun x => ltInt x dk[a]!) dk j i' (Or.inr (by show ltInt (dk[i']!) (dk[a]!) = false; rw [← hG.out a, ← hG.out i']; exact ht))).symm.trans hsc.out
                      have hs2 : Hid (SU w0 blk off N dk (wr.drewN nq)) := hs1.out.drewN nq
                      clear ht hcw hs1 hsc
                      go_loopw [11] (fun vj w2 => ∃ j' : Nat, vj = .int .i64 j' ∧ j' ≤ j ∧ i' ≤ j' + 1 ∧ SU w0 blk off N dk w2 ∧ Hid (scanDown (fun x => !ltInt x dk[a]!) dk i' j' = scanDown (fun x => !ltInt x dk[a]!) dk i' j)) (fun vj _ => (intOf vj).toNat)
                      case atStart => exact ⟨j, rfl, Nat.le_refl _, hij', hs2.out, rfl⟩
                      case round =>
                        obtain ⟨j', rfl, hjj, hij2, hs3, hsd⟩ := hrel
                        have hcw := SU.cw R.out hG hs3
                        have hs3 : Hid (SU w0 blk off N dk wr) := hs3
                        by_cases hle2 : i' ≤ j'
                        · go_wp2_with fail
                          go_big_quiet (first | (go_at_call 73; refine Calls.quiet_of_same (less_any _ _ _)))
                          go_wp2
                          · have ht : (!ltInt (G j') (G a)) = true := by assumption
                            go_roundw
                            case rel => exact ⟨j' - 1, by go_num, by omega, by omega, hs3.out.drewN nq, (scanDown_go (fun x => !ltInt x dk[a]!) dk i' j' hle2 (by omega) (by show (!ltInt (dk[j']!) (dk[a]!)) = true; rw [← hG.out a, ← hG.out j']; exact ht)).symm.trans hsd.out⟩
                            case measure => simp [intOf]; omega
                          · have ht : (!ltInt (G j') (G a)) = false := by assumption
                            have hj2 : Hid (j' = scanDown (fun x => !ltInt x dk[a]!) dk i' j) := (scanDown_end (fun x => !ltInt x dk[a]!) dk i' j' (Or.inr (by show (!ltInt (dk[j']!) (dk[a]!)) = false; rw [← hG.out a, ← hG.out j']; exact ht))).symm.trans hsd.out
                            clear ht hcw hsd
                            obtain ⟨w4, hw4⟩ : ∃ w4, w4 = wr.drewN nq := ⟨_, rfl⟩
                            rw [← hw4]
                            have hs4 : SU w0 blk off N dk w4 := by rw [hw4]; exact hs3.out.drewN nq
                            clear hw4 hs3
                            have hc4 := SU.cw R.out hG hs4
                            have hf4 := SU.fw R.out hs4
                            have hs4 : Hid (SU w0 blk off N dk w4) := hs4
                            have hlt3 : i' < j' := part_scans_lt ltInt a i j dk (by omega) hi2.out hj2.out hle2
                            obtain ⟨v3, hy3⟩ := cell?_setCell_some (w := w4) (p := ⟨blk, off + i', none⟩) (x := .int .u64 (G j')) (q := ⟨blk, off + j', none⟩) (hc4 j' (by omega))
                            go_wp2
                            go_region
                            all_goals go_wp2
                            all_goals go_roundw
                            case rel =>
                              refine ⟨i' + 1, j' - 1, Sort.swp dk i' j', by go_num, by go_num, by omega, by omega, by omega, SU.swp R.out (hs4.out.drewN 1) (by omega) (by omega) (hG.out _) (hG.out _), ?_⟩
                              rw [hO.out, part_go ltInt a i j dk hi2.out hj2.out (by omega)]
                            case measure => simp [intOf]; omega
                        · go_wp2_with fail
                          go_big_quiet (first | (go_at_call 73; refine Calls.quiet_of_same (less_any _ _ _)))
                          have hj2 : Hid (j' = scanDown (fun x => !ltInt x dk[a]!) dk i' j) := (scanDown_end (fun x => !ltInt x dk[a]!) dk i' j' (Or.inl hle2)).symm.trans hsd.out
                          clear hcw hsd
                          obtain ⟨w4, hw4⟩ : ∃ w4, w4 = wr.drewN nq := ⟨_, rfl⟩
                          rw [← hw4]
                          have hs4 : SU w0 blk off N dk w4 := by rw [hw4]; exact hs3.out.drewN nq
                          clear hw4 hs3
                          have hc4 := SU.cw R.out hG hs4
                          have hf4 := SU.fw R.out hs4
                          have hs4 : Hid (SU w0 blk off N dk w4) := hs4
                          have hja : a ≤ j' := by omega
                          obtain ⟨v3, hy3⟩ := cell?_setCell_some (w := w4) (p := ⟨blk, off + j', none⟩) (x := .int .u64 (G a)) (q := ⟨blk, off + a, none⟩) (hc4 a (by omega))
                          go_wp2
                          go_region
                          all_goals go_wp2
                          go_ret2
                          have e := hO.out
                          rw [part_break ltInt a i j dk hi2.out hj2.out (by omega)] at e
                          rw [e]
                          exact ⟨by rfl, SU.swp R.out (hs4.out.drewN 1) (by omega) (by omega) (hG.out _) (hG.out _)⟩
                  · go_wp2_with fail
                    go_big_quiet (first | (go_at_call 73; refine Calls.quiet_of_same (less_any _ _ _)))
                    go_wp2
                    have hi2 : Hid (i' = scanUp (fun x => ltInt x dk[a]!) dk j i) := (scanUp_end (fun x => ltInt x dk[a]!) dk j i' (Or.inl hle)).symm.trans hsc.out
                    have hs2 : Hid (SU w0 blk off N dk (wr.drewN nq)) := hs1.out.drewN nq
                    clear hcw hs1 hsc
                    go_loopw [11] (fun vj w2 => ∃ j' : Nat, vj = .int .i64 j' ∧ j' ≤ j ∧ i' ≤ j' + 1 ∧ SU w0 blk off N dk w2 ∧ Hid (scanDown (fun x => !ltInt x dk[a]!) dk i' j' = scanDown (fun x => !ltInt x dk[a]!) dk i' j)) (fun vj _ => (intOf vj).toNat)
                    case atStart => exact ⟨j, rfl, Nat.le_refl _, hij', hs2.out, rfl⟩
                    case round =>
                      obtain ⟨j', rfl, hjj, hij2, hs3, hsd⟩ := hrel
                      have hcw := SU.cw R.out hG hs3
                      have hs3 : Hid (SU w0 blk off N dk wr) := hs3
                      by_cases hle2 : i' ≤ j'
                      · exfalso; omega
                      · go_wp2_with fail
                        go_big_quiet (first | (go_at_call 73; refine Calls.quiet_of_same (less_any _ _ _)))
                        have hj2 : Hid (j' = scanDown (fun x => !ltInt x dk[a]!) dk i' j) := (scanDown_end (fun x => !ltInt x dk[a]!) dk i' j' (Or.inl hle2)).symm.trans hsd.out
                        clear hcw hsd
                        obtain ⟨w4, hw4⟩ : ∃ w4, w4 = wr.drewN nq := ⟨_, rfl⟩
                        rw [← hw4]
                        have hs4 : SU w0 blk off N dk w4 := by rw [hw4]; exact hs3.out.drewN nq
                        clear hw4 hs3
                        have hc4 := SU.cw R.out hG hs4
                        have hf4 := SU.fw R.out hs4
                        have hs4 : Hid (SU w0 blk off N dk w4) := hs4
                        have hja : a ≤ j' := by omega
                        obtain ⟨v3, hy3⟩ := cell?_setCell_some (w := w4) (p := ⟨blk, off + j', none⟩) (x := .int .u64 (G a)) (q := ⟨blk, off + a, none⟩) (hc4 a (by omega))
                        go_wp2
                        go_region
                        all_goals go_wp2
                        go_ret2
                        have e := hO.out
                        rw [part_break ltInt a i j dk hi2.out hj2.out (by omega)] at e
                        rw [e]
                        exact ⟨by rfl, SU.swp R.out (hs4.out.drewN 1) (by omega) (by omega) (hG.out _) (hG.out _)⟩
          · go_wp2_with fail
            go_big_quiet (first | (go_at_call 73; refine Calls.quiet_of_same (less_any _ _ _)))
            have hj2 : Hid (j' = scanDown (fun x => !ltInt x dk[a]!) dk i' j) := (scanDown_end (fun x => !ltInt x dk[a]!) dk i' j' (Or.inl hle2)).symm.trans hsd.out
            clear hcw hsd
            obtain ⟨w4, hw4⟩ : ∃ w4, w4 = wr.drewN nq := ⟨_, rfl⟩
            rw [← hw4]
            have hs4 : SU w0 blk off N dk w4 := by rw [hw4]; exact hs3.out.drewN nq
            clear hw4 hs3
            have hc4 := SU.cw R.out hG hs4
            have hf4 := SU.fw R.out hs4
            have hs4 : Hid (SU w0 blk off N dk w4) := hs4
            have hja : a ≤ j' := by omega
            obtain ⟨v3, hy3⟩ := cell?_setCell_some (w := w4) (p := ⟨blk, off + j', none⟩) (x := .int .u64 (G a)) (q := ⟨blk, off + a, none⟩) (hc4 a (by omega))
            go_wp2
            go_region
            all_goals go_wp2
            go_ret2
            have e := part_first_break ltInt d a b pv hi1.out hj1.out hdk.out hi2.out hj2.out (by omega)
            rw [e]
            exact ⟨by rfl, SU.swp R.out (hs4.out.drewN 1) (by omega) (by omega) (hG.out _) (hG.out _)⟩
    · go_wp2_with fail
      go_big_quiet (first | (go_at_call 73; refine Calls.quiet_of_same (less_any _ _ _)))
      go_wp2
      have hi2 : Hid (i' = scanUp (fun x => ltInt x dk[a]!) dk j i) := (scanUp_end (fun x => ltInt x dk[a]!) dk j i' (Or.inl hle)).symm.trans hsc.out
      have hs2 : Hid (SU w0 blk off N dk (wr.drewN nq)) := hs1.out.drewN nq
      clear hcw hs1 hsc
      go_loopw [11] (fun vj w2 => ∃ j' : Nat, vj = .int .i64 j' ∧ j' ≤ j ∧ i' ≤ j' + 1 ∧ SU w0 blk off N dk w2 ∧ Hid (scanDown (fun x => !ltInt x dk[a]!) dk i' j' = scanDown (fun x => !ltInt x dk[a]!) dk i' j)) (fun vj _ => (intOf vj).toNat)
      case atStart => exact ⟨j, rfl, Nat.le_refl _, hij', hs2.out, rfl⟩
      case round =>
        obtain ⟨j', rfl, hjj, hij2, hs3, hsd⟩ := hrel
        have hcw := SU.cw R.out hG hs3
        have hs3 : Hid (SU w0 blk off N dk wr) := hs3
        by_cases hle2 : i' ≤ j'
        · exfalso; omega
        · go_wp2_with fail
          go_big_quiet (first | (go_at_call 73; refine Calls.quiet_of_same (less_any _ _ _)))
          have hj2 : Hid (j' = scanDown (fun x => !ltInt x dk[a]!) dk i' j) := (scanDown_end (fun x => !ltInt x dk[a]!) dk i' j' (Or.inl hle2)).symm.trans hsd.out
          clear hcw hsd
          obtain ⟨w4, hw4⟩ : ∃ w4, w4 = wr.drewN nq := ⟨_, rfl⟩
          rw [← hw4]
          have hs4 : SU w0 blk off N dk w4 := by rw [hw4]; exact hs3.out.drewN nq
          clear hw4 hs3
          have hc4 := SU.cw R.out hG hs4
          have hf4 := SU.fw R.out hs4
          have hs4 : Hid (SU w0 blk off N dk w4) := hs4
          have hja : a ≤ j' := by omega
          obtain ⟨v3, hy3⟩ := cell?_setCell_some (w := w4) (p := ⟨blk, off + j', none⟩) (x := .int .u64 (G a)) (q := ⟨blk, off + a, none⟩) (hc4 a (by omega))
          go_wp2
          go_region
          all_goals go_wp2
          go_ret2
          have e := part_first_break ltInt d a b pv hi1.out hj1.out hdk.out hi2.out hj2.out (by omega)
          rw [e]
          exact ⟨by rfl, SU.swp R.out (hs4.out.drewN 1) (by omega) (by omega) (hG.out _) (hG.out _)⟩
end Go.Proofs.YbulkcoecFmt
