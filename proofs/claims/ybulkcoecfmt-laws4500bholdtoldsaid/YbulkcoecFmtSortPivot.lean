import Derived.Test.YbulkcoecFmtSortMed
import Derived.Sort.LotD4
namespace Go.Proofs.YbulkcoecFmt
open Go.RowKit Go.Sort
set_option linter.unusedVariables false
set_option linter.unusedSimpArgs false

theorem hint_zero : hintCode (hintOf 0) = 1 := rfl
theorem hint_twelve : hintCode (hintOf 12) = 2 := rfl
theorem hint_else {s : Nat} (h1 : s ≠ 0) (h2 : s ≠ 12) : hintCode (hintOf s) = 0 := by unfold hintOf; rw [if_neg h1, if_neg h2]; rfl

set_option maxRecDepth 100000 in
set_option maxHeartbeats 8000000 in
/-- choosePivotOrdered at uint64. -/
theorem pivot_any {w0 W : World} {blk off N : Nat} {d : Array Int} (R : RowU w0 blk off N) (h : SU w0 blk off N d W) (hN : N < 4611686018427387904) {a b : Nat} (hab : a < b) (hb : b ≤ N) (cap : Nat) :
    Calls Ybaf.prog 70 #[.slice (some ⟨blk, off, none⟩) N cap, .int .i64 a, .int .i64 b] W fun e w' =>
      e = .returned (.tuple #[.int .i64 (choosePivot ltInt d a b).1, .int .i64 (hintCode (choosePivot ltInt d a b).2)]) ∧ SU w0 blk off N d w' := by
  have R : Hid (RowU w0 blk off N) := R
  rw [choosePivot_eq]
  obtain ⟨D, hD⟩ : ∃ D, W.heap.size = D := ⟨_, rfl⟩
  have hst : Hid (CU w0 blk off N d D 0 (W.alloc (.cells #[.int .i64 0] 3))) := by
    rw [← hD]; exact ⟨h.size, Cnt1.start h.sw 3⟩
  obtain ⟨p1, hp1⟩ : ∃ p : Nat, p = a + (b - a) / 4 * 1 := ⟨_, rfl⟩
  obtain ⟨p2, hp2⟩ : ∃ p : Nat, p = a + (b - a) / 4 * 2 := ⟨_, rfl⟩
  obtain ⟨p3, hp3⟩ : ∃ p : Nat, p = a + (b - a) / 4 * 3 := ⟨_, rfl⟩
  have g1 : ((a : Int) + ((b : Int) - (a : Int)) / 4) = (p1 : Int) := by omega
  have g2 : ((a : Int) + ((b : Int) - (a : Int)) / 4 * 2) = (p2 : Int) := by omega
  have g3 : ((a : Int) + ((b : Int) - (a : Int)) / 4 * 3) = (p3 : Int) := by omega
  have l2 : p2 < N := by omega
  by_cases h8 : b - a ≥ 8
  · have l1 : 1 ≤ p1 ∧ p1 + 1 < N ∧ 1 ≤ p2 ∧ p2 + 1 < N ∧ 1 ≤ p3 ∧ p3 + 1 < N := by omega
    by_cases h50 : b - a ≥ 50
    · have raw : Hid (rawPivot ltInt d a b = median ltInt d (medianAdjacent ltInt d p1 0).1 (medianAdjacent ltInt d p2 (medianAdjacent ltInt d p1 0).2).1 (medianAdjacent ltInt d p3 (medianAdjacent ltInt d p2 (medianAdjacent ltInt d p1 0).2).2).1 (medianAdjacent ltInt d p3 (medianAdjacent ltInt d p2 (medianAdjacent ltInt d p1 0).2).2).2) := by
        show rawPivot ltInt d a b = _
        simp only [rawPivot, if_pos h8, if_pos h50, ← hp1, ← hp2, ← hp3]
      obtain ⟨i1, s1, m1⟩ : ∃ i s, medianAdjacent ltInt d p1 0 = (i, s) := ⟨_, _, rfl⟩
      obtain ⟨i2, s2, m2⟩ : ∃ i s, medianAdjacent ltInt d p2 s1 = (i, s) := ⟨_, _, rfl⟩
      obtain ⟨i3, s3, m3⟩ : ∃ i s, medianAdjacent ltInt d p3 s2 = (i, s) := ⟨_, _, rfl⟩
      obtain ⟨p, s, m4⟩ : ∃ i s, median ltInt d i1 i2 i3 s3 = (i, s) := ⟨_, _, rfl⟩
      have raw : Hid (rawPivot ltInt d a b = (p, s)) := by
        have := raw.out
        simp only [m1, m2, m3, m4] at this
        exact this
      have c1 := fun w h hs => @medadj_any w0 w blk off N d R.out D 0 h hs hN p1 l1.1 l1.2.1 cap
      have c2 := fun w h hs => @medadj_any w0 w blk off N d R.out D s1 h hs hN p2 l1.2.2.1 l1.2.2.2.1 cap
      have c3 := fun w h hs => @medadj_any w0 w blk off N d R.out D s2 h hs hN p3 l1.2.2.2.2.1 l1.2.2.2.2.2 cap
      have c4 := fun w h hs ha hb hc => @median_any w0 w blk off N d R.out D s3 h hs hN i1 i2 i3 ha hb hc cap
      rw [m1] at c1
      rw [m2] at c2
      rw [m3] at c3
      rw [m4] at c4
      dsimp only at c1 c2 c3 c4
      have c1 : Hid _ := c1
      have c2 : Hid _ := c2
      have c3 : Hid _ := c3
      have c4 : Hid _ := c4
      clear m1 m2 m3 m4 hp1 hp2 hp3
      rw [raw.out]
      dsimp only
      obtain ⟨Hc, hHc⟩ : ∃ Hc : Int, Hc = hintCode (hintOf s) := ⟨_, rfl⟩
      rw [← hHc]
      have hHc : Hid (Hc = hintCode (hintOf s)) := hHc
      go_enter Ybaf.func70, Ybaf.ntmps70
      go_wp2_with fail
      refine (c1.out _ hst.out (by omega)).mono ?_
      rintro e w1 ⟨rfl, h1, b1, t1⟩
      have h1 : Hid (CU w0 blk off N d D s1 w1) := h1
      go_wp2_with fail
      refine (c2.out _ h1.out (by omega)).mono ?_
      rintro e w2 ⟨rfl, h2, b2, t2⟩
      have h2 : Hid (CU w0 blk off N d D s2 w2) := h2
      go_wp2_with fail
      refine (c3.out _ h2.out (by omega)).mono ?_
      rintro e w3 ⟨rfl, h3, b3, t3⟩
      have h3 : Hid (CU w0 blk off N d D s3 w3) := h3
      go_wp2_with fail
      refine (c4.out _ h3.out (by omega) b1 b2 b3).mono ?_
      rintro e w4 ⟨rfl, h4, b4, t4⟩
      have x1 := h4.cnt.2.1
      have x2 := h4.cnt.2.2.1
      have h4 : Hid (CU w0 blk off N d D s w4) := h4
      by_cases z0 : s = 0
      · subst z0
        go_wp2
        go_ret2
        exact ⟨by rw [hHc.out]; rfl, h4.out.su⟩
      · by_cases z12 : s = 12
        · subst z12
          go_wp2
          go_ret2
          exact ⟨by rw [hHc.out]; rfl, h4.out.su⟩
        · have y0 : (((s : Nat) : Int) == 0) = false := by simp; omega
          have y12 : (((s : Nat) : Int) == 12) = false := by simp; omega
          go_wp2
          go_ret2
          exact ⟨by rw [hHc.out, hint_else z0 z12]; rfl, h4.out.su⟩
    · have raw : Hid (rawPivot ltInt d a b = median ltInt d p1 p2 p3 0) := by
        show rawPivot ltInt d a b = _
        simp only [rawPivot, if_pos h8, if_neg h50, ← hp1, ← hp2, ← hp3]
      obtain ⟨p, s, m4⟩ : ∃ i s, median ltInt d p1 p2 p3 0 = (i, s) := ⟨_, _, rfl⟩
      have raw : Hid (rawPivot ltInt d a b = (p, s)) := by rw [← m4]; exact raw.out
      have c4 := fun w h hs => @median_any w0 w blk off N d R.out D 0 h hs hN p1 p2 p3 (by omega) (by omega) (by omega) cap
      rw [m4] at c4
      dsimp only at c4
      have c4 : Hid _ := c4
      clear m4 hp1 hp2 hp3
      rw [raw.out]
      dsimp only
      obtain ⟨Hc, hHc⟩ : ∃ Hc : Int, Hc = hintCode (hintOf s) := ⟨_, rfl⟩
      rw [← hHc]
      have hHc : Hid (Hc = hintCode (hintOf s)) := hHc
      go_enter Ybaf.func70, Ybaf.ntmps70
      go_wp2_with fail
      refine (c4.out _ hst.out (by omega)).mono ?_
      rintro e w4 ⟨rfl, h4, b4, t4⟩
      have x1 := h4.cnt.2.1
      have x2 := h4.cnt.2.2.1
      have h4 : Hid (CU w0 blk off N d D s w4) := h4
      by_cases z0 : s = 0
      · subst z0
        go_wp2
        go_ret2
        exact ⟨by rw [hHc.out]; rfl, h4.out.su⟩
      · by_cases z12 : s = 12
        · subst z12
          go_wp2
          go_ret2
          exact ⟨by rw [hHc.out]; rfl, h4.out.su⟩
        · have y0 : (((s : Nat) : Int) == 0) = false := by simp; omega
          have y12 : (((s : Nat) : Int) == 12) = false := by simp; omega
          go_wp2
          go_ret2
          exact ⟨by rw [hHc.out, hint_else z0 z12]; rfl, h4.out.su⟩
  · have raw : Hid (rawPivot ltInt d a b = (p2, 0)) := by
      show rawPivot ltInt d a b = _
      simp only [rawPivot, if_neg h8, ← hp2]
    rw [raw.out]
    dsimp only
    rw [hint_zero]
    have hsu : Hid (SU w0 blk off N d (W.alloc (.cells #[.int .i64 0] 3))) := hst.out.su
    clear hp1 hp2 hp3
    go_enter Ybaf.func70, Ybaf.ntmps70
    go_wp2
    go_ret2
    exact ⟨rfl, hsu.out⟩
end Go.Proofs.YbulkcoecFmt
