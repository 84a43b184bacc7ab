import Derived.Test.YbulkcoecFmtSortIns
import Derived.Test.YbulkcoecFmtSortRev
import Derived.Test.YbulkcoecFmtSortHeap
import Derived.Test.YbulkcoecFmtSortPartEq
import Derived.Test.YbulkcoecFmtSortPart
import Derived.Test.YbulkcoecFmtSortPivot
import Derived.Test.YbulkcoecFmtSortBreak
import Derived.Test.YbulkcoecFmtSortPis
namespace Go.Proofs.YbulkcoecFmt
open Go.RowKit Go.Sort
set_option linter.unusedVariables false
set_option linter.unusedSimpArgs false

/-- Whatever sorts the part sorts the whole. -/
def Fin (a b : Nat) (d : Array Int) (a' b' : Nat) (dk : Array Int) : Prop :=
  ∀ R, PermIn a' b' dk R → SortedIn ltInt a' b' R → PermIn a b d R ∧ SortedIn ltInt a b R

theorem Fin.perm {a b a' b' : Nat} {d dk d' : Array Int} (h : Fin a b d a' b' dk) (hp : PermIn a' b' dk d') : Fin a b d a' b' d' :=
  fun R hR hS => h R (permIn_trans _ _ _ _ _ hp hR) hS

set_option maxRecDepth 100000 in
set_option maxHeartbeats 32000000 in
/-- pdqsortOrdered at uint64. -/
theorem pdq_any {w0 : World} {blk off N : Nat} (R : RowU w0 blk off N) (hN : N < 4611686018427387904) (cap : Nat) : ∀ (n : Nat) {a b limit : Nat} {d : Array Int} {W : World}, b - a < n → SU w0 blk off N d W → a ≤ b → b ≤ N → limit < 4611686018427387904 → Sort.Below ltInt a b d →
    Calls Ybaf.prog 41 #[.slice (some ⟨blk, off, none⟩) N cap, .int .i64 a, .int .i64 b, .int .i64 limit] W fun e w' => e = .returned (.tuple #[]) ∧ ∃ d', SU w0 blk off N d' w' ∧ PermIn a b d d' ∧ SortedIn ltInt a b d' := by
  intro n
  induction n with
  | zero => intro a b limit d W h; exact absurd h (Nat.not_lt_zero _)
  | succ n ih =>
    intro a b limit d W hn h hab hb hlim hbel
    have R : Hid (RowU w0 blk off N) := R
    have h : Hid (SU w0 blk off N d W) := h
    have ih : Hid (∀ {a b limit : Nat} {d : Array Int} {W : World}, b - a < n → SU w0 blk off N d W → a ≤ b → b ≤ N → limit < 4611686018427387904 → Sort.Below ltInt a b d →
      Calls Ybaf.prog 41 #[.slice (some ⟨blk, off, none⟩) N cap, .int .i64 a, .int .i64 b, .int .i64 limit] W fun e w' => e = .returned (.tuple #[]) ∧ ∃ d', SU w0 blk off N d' w' ∧ PermIn a b d d' ∧ SortedIn ltInt a b d') := @ih
    have hbel : Hid (Sort.Below ltInt a b d) := hbel
    go_enter Ybaf.func41, Ybaf.ntmps41
    go_wp2
    go_loopw [1, 2, 3, 8, 9] (fun s1 s2 s3 s8 s9 wr => ∃ (a' b' lim : Nat) (wb wp : Bool) (dk : Array Int), s1 = .int .i64 a' ∧ s2 = .int .i64 b' ∧ s3 = .int .i64 lim ∧ s8 = .bool wb ∧ s9 = .bool wp ∧
      a' ≤ b' ∧ b' ≤ N ∧ b' - a' ≤ b - a ∧ lim ≤ limit ∧ SU w0 blk off N dk wr ∧ Sort.Below ltInt a' b' dk ∧ Fin a b d a' b' dk) (fun s1 s2 _ _ _ _ => (intOf s2).toNat - (intOf s1).toNat)
    case atStart => exact ⟨a, b, limit, true, true, d, rfl, rfl, rfl, rfl, rfl, hab, hb, Nat.le_refl _, Nat.le_refl _, h.out, hbel.out, fun _ h1 h2 => ⟨h1, h2⟩⟩
    case round =>
      obtain ⟨a', b', lim, wb, wp, dk, rfl, rfl, rfl, rfl, rfl, hab', hb', hle, hll, hs, hB, hF⟩ := hrel
      have hsz := hs.size
      have hsz : Hid (dk.size = N) := hsz
      have hs : Hid (SU w0 blk off N dk wr) := hs
      have hB : Hid (Sort.Below ltInt a' b' dk) := hB
      have hF : Hid (Fin a b d a' b' dk) := hF
      by_cases h12 : b' - a' ≤ 12
      · have h12z : (b' : Int) - (a' : Int) ≤ 12 := by omega
        go_wp2_with fail
        refine (ins_any R.out hs.out hN hab' hb' cap).mono ?_
        rintro e w1 ⟨rfl, h1⟩
        have h1 : Hid (SU w0 blk off N (insertionSort ltInt dk a' b') w1) := h1
        go_wp2_with fail
        (try simp only [Exit.inBlock, Exit.then]); refine bodyPost_ret (results_none rfl _ _ _) rfl ?_
        obtain ⟨p1, p2⟩ := insertionSort_holds (lt := ltInt) swo_ltInt dk a' b' hab' (by rw [hsz.out]; exact hb')
        obtain ⟨q1, q2⟩ := hF.out _ p1 p2
        exact ⟨rfl, _, h1.out, q1, q2⟩
      · have h12z : ¬ ((b' : Int) - (a' : Int) ≤ 12) := by omega
        by_cases hl0 : lim = 0
        · subst hl0
          go_wp2_with fail
          refine (heap_any R.out hs.out hN hab' hb' cap).mono ?_
          rintro e w1 ⟨rfl, h1⟩
          have h1 : Hid (SU w0 blk off N (heapSort ltInt dk a' b') w1) := h1
          go_wp2_with fail
          (try simp only [Exit.inBlock, Exit.then]); refine bodyPost_ret (results_none rfl _ _ _) rfl ?_
          obtain ⟨p1, p2⟩ := heapSort_holds (lt := ltInt) swo_ltInt dk a' b' hab' (by rw [hsz.out]; exact hb')
          obtain ⟨q1, q2⟩ := hF.out _ p1 p2
          exact ⟨rfl, _, h1.out, q1, q2⟩
        · have hl0z : ((lim : Int) == 0) = false := by simp; omega
          go_upto_if 35 with (fail)
          go_cut [3] (fun s3 wx => ∃ (lim1 : Nat) (d1 : Array Int), s3 = .int .i64 lim1 ∧ lim1 ≤ limit ∧ SU w0 blk off N d1 wx ∧ PermIn a' b' dk d1)
          case first =>
            cases wb with
            | false =>
              go_wp2_with fail
              refine (break_any R.out hs.out hN (by omega) hb' cap).mono ?_
              rintro e w1 ⟨rfl, h1⟩
              have h1 : Hid (SU w0 blk off N (breakPatterns dk a' b') w1) := h1
              go_wp2_with fail
              go_meet
              exact ⟨lim - 1, _, by go_num, by omega, h1.out, breakPatterns_holds dk a' b' hab' (by rw [hsz.out]; exact hb')⟩
            | true =>
              go_wp2_with fail
              go_meet
              exact ⟨lim, dk, rfl, hll, hs.out, permIn_refl _ _ _⟩
          case rest =>
            obtain ⟨lim1, d1, rfl, hl1, h1, p1⟩ := hcut
            have h1 : Hid (SU w0 blk off N d1 wc) := h1
            have p1 : Hid (PermIn a' b' dk d1) := p1
            clear hs
            obtain ⟨pv1, hc1, e1⟩ : ∃ (p : Nat) (c : Int), choosePivot ltInt d1 a' b' = (p, (choosePivot ltInt d1 a' b').2) ∧ c = hintCode (choosePivot ltInt d1 a' b').2 := ⟨_, _, rfl, rfl⟩
            have hpr := choosePivot_holds ltInt d1 a' b' (by omega)
            have hpc := pivot_any R.out h1.out hN (a := a') (b := b') (by omega) hb' cap
            rw [← e1.2] at hpc
            rw [e1.1] at hpc hpr
            dsimp only at hpc hpr
            have hpc : Hid _ := hpc
            clear e1
            go_upto_if 50 with (fail)
            refine Calls.mono hpc.out ?_
            rintro e w2 ⟨rfl, h2⟩
            have h2 : Hid (SU w0 blk off N d1 w2) := h2
            go_upto_if 50 with (fail)
            clear h1 hpc
            go_cut [11, 12] (fun s11 s12 wx => ∃ (pv : Nat) (ht : Int) (d2 : Array Int), s11 = .int .i64 pv ∧ s12 = .int .i64 ht ∧ a' ≤ pv ∧ pv < b' ∧ SU w0 blk off N d2 wx ∧ PermIn a' b' dk d2)
            case first =>
              by_cases hc2 : hc1 = 2
              · subst hc2
                go_wp2_with fail
                refine (rev_any R.out h2.out hN (a := a') (b := b') (by omega) hb' cap).mono ?_
                rintro e w3 ⟨rfl, h3⟩
                have h3 : Hid (SU w0 blk off N (reverseRange d1 a' b') w3) := h3
                go_wp2_with fail
                go_meet
                exact ⟨(b' - 1) - (pv1 - a'), 1, _, by congr 1; omega, rfl, by omega, by omega, h3.out, permIn_trans _ _ _ _ _ p1.out (reverseRange_holds d1 a' b' hab' (by rw [h2.out.size]; exact hb'))⟩
              · have hc2z : (hc1 == 2) = false := by simp; omega
                go_wp2_with fail
                go_meet
                exact ⟨pv1, hc1, d1, rfl, rfl, by omega, by omega, h2.out, p1.out⟩
            case rest =>
              obtain ⟨pv, ht, d2, rfl, rfl, hpv1, hpv2, h3, p2⟩ := hcut
              have h3 : Hid (SU w0 blk off N d2 wc) := h3
              have p2 : Hid (PermIn a' b' dk d2) := p2
              clear h2 p1 hpr
              go_upto_region 15 with (fail)
              go_cut [68] (fun s68 wx => ∃ bb : Bool, s68 = .bool bb ∧ SU w0 blk off N d2 wx)
              case first =>
                by_cases hht : ht = 1
                · subst hht
                  cases wb <;> cases wp <;>
                    (go_wp2_with fail
                     go_meet
                     exact ⟨_, rfl, h3.out⟩)
                · have hhtz : (ht == 1) = false := by simp; omega
                  cases wb <;> cases wp <;>
                    (go_wp2_with fail
                     go_meet
                     exact ⟨_, rfl, h3.out⟩)
              case rest =>
                obtain ⟨bb, rfl, h4⟩ := hcut
                have h4 : Hid (SU w0 blk off N d2 wc) := h4
                go_upto_if 68 with (fail)
                go_cut [] (fun wx => ∃ d3, SU w0 blk off N d3 wx ∧ PermIn a' b' dk d3)
                case first =>
                  cases bb with
                  | false =>
                    go_wp2_with fail
                    go_meet
                    exact ⟨d2, h4.out, p2.out⟩
                  | true =>
                    have hpi := partialInsertionSort_holds (lt := ltInt) swo_ltInt d2 a' b' (by omega) (by rw [h4.out.size]; exact hb') (hB.out.perm (by rw [hsz.out]; exact hb') p2.out)
                    have hpic := pis_any R.out h4.out hN (a := a') (b := b') (by omega) hb' cap
                    obtain ⟨d3, fl, e3⟩ : ∃ d3 fl, partialInsertionSort ltInt d2 a' b' = (d3, fl) := ⟨_, _, rfl⟩
                    rw [e3] at hpi hpic
                    dsimp only at hpi hpic
                    have hpi : Hid _ := hpi
                    have hpic : Hid _ := hpic
                    clear e3
                    cases fl with
                    | false =>
                      go_wp2_with fail
                      refine Calls.mono hpic.out ?_
                      rintro e w5 ⟨rfl, h5⟩
                      have h5 : Hid (SU w0 blk off N d3 w5) := h5
                      go_wp2_with fail
                      go_meet
                      exact ⟨d3, h5.out, permIn_trans _ _ _ _ _ p2.out hpi.out.1⟩
                    | true =>
                      go_wp2_with fail
                      refine Calls.mono hpic.out ?_
                      rintro e w5 ⟨rfl, h5⟩
                      have h5 : Hid (SU w0 blk off N d3 w5) := h5
                      go_wp2_with fail
                      (try simp only [Exit.inBlock, Exit.then]); refine bodyPost_ret (results_none rfl _ _ _) rfl ?_
                      obtain ⟨q1, q2⟩ := hF.out _ (permIn_trans _ _ _ _ _ p2.out hpi.out.1) (hpi.out.2 trivial)
                      exact ⟨rfl, _, h5.out, q1, q2⟩
                case rest =>
                  obtain ⟨d3, h5, p3⟩ := hcut
                  obtain ⟨G, hG, hcw, hfw⟩ := SU.fam R.out h5
                  have h5 : Hid (SU w0 blk off N d3 wc) := h5
                  have p3 : Hid (PermIn a' b' dk d3) := p3
                  clear h4 h3 p2
                  go_upto_region 17 with (fail)
                  go_cut [87] (fun s87 wx => ∃ bb : Bool, s87 = .bool bb ∧ SU w0 blk off N d3 wx ∧ (bb = true → 0 < a' ∧ ltInt d3[a' - 1]! d3[pv]! = false))
                  case first =>
                    by_cases ha0 : a' = 0
                    · have ha0z : decide ((a' : Int) > 0) = false := decide_eq_false (by omega)
                      go_big_quiet (first | (go_at_call 73; refine Calls.quiet_of_same (less_any _ _ _)))
                      go_wp2_with fail
                      go_meet
                      exact ⟨false, rfl, h5.out.drewN nq, fun h => by cases h⟩
                    · have ha0z : (0 : Int) < (a' : Int) := by omega
                      have ha1 : 0 < a' := by omega
                      go_big_quiet (first | (go_at_call 73; refine Calls.quiet_of_same (less_any _ _ _)))
                      go_wp2_with fail
                      go_meet
                      refine ⟨_, rfl, h5.out.drewN nq, fun h => ⟨by omega, ?_⟩⟩
                      rw [← hG.out, ← hG.out]
                      simpa using h
                  case rest =>
                    obtain ⟨bb, rfl, h6, hbb⟩ := hcut
                    have h6 : Hid (SU w0 blk off N d3 wc) := h6
                    have hbb : Hid (bb = true → 0 < a' ∧ ltInt d3[a' - 1]! d3[pv]! = false) := hbb
                    have s3 : d3.size = N := h6.out.size
                    have s3 : Hid (d3.size = N) := s3
                    have B3 : Hid (Sort.Below ltInt a' b' d3) := hB.out.perm (by rw [hsz.out]; exact hb') p3.out
                    have F3 : Hid (Fin a b d a' b' d3) := hF.out.perm p3.out
                    clear hcw hfw
                    cases bb with
                    | true =>
                      obtain ⟨mid, d4, e4⟩ : ∃ mid d4, partitionEqual ltInt d3 a' b' pv = (mid, d4) := ⟨_, _, rfl⟩
                      have r := round_eq swo_ltInt (partitionEqual_holds ltInt) (hbb.out rfl).1 hpv1 hpv2 (by rw [s3.out]; exact hb') B3.out (hbb.out rfl).2 e4
                      have hc := parteq_any R.out h6.out hN hpv1 hpv2 hb' cap
                      rw [e4] at hc
                      dsimp only at hc
                      obtain ⟨r1, r2, r3, r4, r5⟩ := r
                      have r3 : Hid (d4.size = d3.size) := r3
                      have r4 : Hid (Sort.Below ltInt mid b' d4) := r4
                      have r5 : Hid (∀ R, PermIn mid b' d4 R → SortedIn ltInt mid b' R → PermIn a' b' d3 R ∧ SortedIn ltInt a' b' R) := r5
                      have hc : Hid _ := hc
                      clear e4
                      go_wp2_with fail
                      refine Calls.mono hc.out ?_
                      rintro e w7 ⟨rfl, h7⟩
                      have h7 : Hid (SU w0 blk off N d4 w7) := h7
                      go_wp2_with fail
                      go_roundw
                      case rel => exact ⟨mid, b', lim1, wb, wp, d4, rfl, rfl, rfl, rfl, rfl, r2, hb', by omega, hl1, h7.out, r4.out, fun X hX hS => F3.out X (r5.out X hX hS).1 (r5.out X hX hS).2⟩
                      case measure => simp [intOf]; omega
                    | false =>
                      obtain ⟨mid, ap, d4, e4⟩ : ∃ mid ap d4, partition ltInt d3 a' b' pv = (mid, ap, d4) := ⟨_, _, _, rfl⟩
                      have r := round_part swo_ltInt (partition_holds ltInt) hpv1 hpv2 (by rw [s3.out]; exact hb') B3.out e4
                      have hc := part_any R.out h6.out hN hpv1 hpv2 hb' cap
                      rw [e4] at hc
                      dsimp only at hc
                      obtain ⟨r1, r2, r3, r4, r5, r6, r7⟩ := r
                      have r3 : Hid (d4.size = d3.size) := r3
                      have r4 : Hid (Sort.Below ltInt a' mid d4) := r4
                      have r5 : Hid (Sort.Below ltInt (mid + 1) b' d4) := r5
                      have r6 : Hid (∀ L, PermIn a' mid d4 L → SortedIn ltInt a' mid L → Sort.Below ltInt (mid + 1) b' L ∧ ∀ R, PermIn (mid + 1) b' L R → SortedIn ltInt (mid + 1) b' R → PermIn a' b' d3 R ∧ SortedIn ltInt a' b' R) := r6
                      have r7 : Hid (∀ L, PermIn (mid + 1) b' d4 L → SortedIn ltInt (mid + 1) b' L → Sort.Below ltInt a' mid L ∧ ∀ R, PermIn a' mid L R → SortedIn ltInt a' mid R → PermIn a' b' d3 R ∧ SortedIn ltInt a' b' R) := r7
                      have hc : Hid _ := hc
                      clear e4
                      go_upto_if 113 with (go_at_call 75; refine Calls.mono hc.out ?_; rintro e w7 ⟨rfl, h7⟩; have h7 : Hid (SU w0 blk off N d4 w7) := h7)
                      by_cases h4 : mid - a' < b' - mid
                      · have h4z : (mid : Int) - (a' : Int) < (b' : Int) - (mid : Int) := by omega
                        have hih := ih.out (a := a') (b := mid) (limit := lim1) (by omega) h7.out (by omega) (by omega) (by omega) r4.out
                        have hih : Hid _ := hih
                        go_wp2_with fail
                        refine Calls.mono hih.out ?_
                        rintro e w8 ⟨rfl, d8, h8, p8, s8⟩
                        have h8 : Hid (SU w0 blk off N d8 w8) := h8
                        have p8 : Hid (PermIn a' mid d4 d8) := p8
                        have s8 : Hid (SortedIn ltInt a' mid d8) := s8
                        go_wp2_with fail
                        go_roundw
                        case rel =>
                          obtain ⟨q1, q2⟩ := r6.out d8 p8.out s8.out
                          exact ⟨mid + 1, b', lim1, _, ap, d8, by go_num, rfl, rfl, rfl, rfl, by omega, hb', by omega, hl1, h8.out, q1, fun X hX hS => F3.out X (q2 X hX hS).1 (q2 X hX hS).2⟩
                        case measure => simp [intOf]; omega
                      · have h4z : ¬ ((mid : Int) - (a' : Int) < (b' : Int) - (mid : Int)) := by omega
                        have hih := ih.out (a := mid + 1) (b := b') (limit := lim1) (by omega) h7.out (by omega) (by omega) (by omega) r5.out
                        have hih : Hid _ := hih
                        go_wp2_with fail
                        refine Calls.mono hih.out ?_
                        rintro e w8 ⟨rfl, d8, h8, p8, s8⟩
                        have h8 : Hid (SU w0 blk off N d8 w8) := h8
                        have p8 : Hid (PermIn (mid + 1) b' d4 d8) := p8
                        have s8 : Hid (SortedIn ltInt (mid + 1) b' d8) := s8
                        go_wp2_with fail
                        go_roundw
                        case rel =>
                          obtain ⟨q1, q2⟩ := r7.out d8 p8.out s8.out
                          exact ⟨a', mid, lim1, _, ap, d8, rfl, rfl, rfl, rfl, rfl, by omega, by omega, by omega, hl1, h8.out, q1, fun X hX hS => F3.out X (q2 X hX hS).1 (q2 X hX hS).2⟩
                        case measure => simp [intOf]; omega
end Go.Proofs.YbulkcoecFmt
