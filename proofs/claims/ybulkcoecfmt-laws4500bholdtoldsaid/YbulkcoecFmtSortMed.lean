import Derived.Test.YbulkcoecFmtSortBase
import Derived.Sort.WalkD1
namespace Go.Proofs.YbulkcoecFmt
open Go.RowKit Go.Sort
set_option linter.unusedVariables false
set_option linter.unusedSimpArgs false

/-- A world of the sort, with the counter s in the block c. -/
structure CU (w0 : World) (blk off N : Nat) (d : Array Int) (c s : Nat) (W : World) : Prop where
  size : d.size = N
  cnt : Cnt1 (Value.int .u64) w0 blk off d c s W

theorem CU.su {w0 W : World} {blk off N : Nat} {d : Array Int} {c s : Nat} (h : CU w0 blk off N d c s W) : SU w0 blk off N d W := ⟨h.size, h.cnt.1⟩
theorem CU.drewN {w0 W : World} {blk off N : Nat} {d : Array Int} {c s : Nat} (h : CU w0 blk off N d c s W) (q : Nat) : CU w0 blk off N d c s (W.drewN q) :=
  ⟨h.size, by have := h.cnt.grown q #[]; rw [grow_empty] at this; exact this⟩

set_option maxRecDepth 100000 in
set_option maxHeartbeats 4000000 in
/-- order2Ordered at uint64. -/
theorem order2_any {w0 W : World} {blk off N : Nat} {d : Array Int} (R : RowU w0 blk off N) {c s : Nat} (h : CU w0 blk off N d c s W) (hs : s < 100) (hN : N < 4611686018427387904) {a b : Nat} (ha : a < N) (hb : b < N) (cap : Nat) :
    Calls Ybaf.prog 122 #[.slice (some ⟨blk, off, none⟩) N cap, .int .i64 a, .int .i64 b, .pointer (some ⟨c, 0, none⟩)] W fun e w' =>
      e = .returned (.tuple #[.int .i64 (order2 ltInt d a b s).1, .int .i64 (order2 ltInt d a b s).2.1]) ∧ CU w0 blk off N d c (order2 ltInt d a b s).2.2 w' := by
  have R : Hid (RowU w0 blk off N) := R
  obtain ⟨G, hG, hcw, hfw⟩ := SU.fam R.out h.su
  have h1 := h.cnt.2.1
  have h2 := h.cnt.2.2.1
  have h : Hid (CU w0 blk off N d c s W) := h
  go_enter Ybaf.func122, Ybaf.ntmps122
  go_wp2
  go_quiet (first | (go_at_call 73; refine Calls.quiet_of_same (less_any _ _ _)))
  go_wp2
  · have hl : ltInt (G b) (G a) = true := by assumption
    rw [hG.out, hG.out] at hl
    go_ret2
    refine ⟨by simp only [order2, hl, if_true]; rfl, ?_⟩
    simp only [order2, hl, if_true]
    exact ⟨h.out.size, (h.out.drewN nq).cnt.bump (s + 1)⟩
  · have hl : ltInt (G b) (G a) = false := by assumption
    rw [hG.out, hG.out] at hl
    go_ret2
    refine ⟨by simp only [order2, hl]; rfl, ?_⟩
    simp only [order2, hl]
    exact h.out.drewN nq

set_option maxRecDepth 100000 in
set_option maxHeartbeats 4000000 in
/-- medianOrdered at uint64. -/
theorem median_any {w0 W : World} {blk off N : Nat} {d : Array Int} (R : RowU w0 blk off N) {x s : Nat} (h : CU w0 blk off N d x s W) (hs : s < 90) (hN : N < 4611686018427387904) {a b c : Nat} (ha : a < N) (hb : b < N) (hc : c < N) (cap : Nat) :
    Calls Ybaf.prog 106 #[.slice (some ⟨blk, off, none⟩) N cap, .int .i64 a, .int .i64 b, .int .i64 c, .pointer (some ⟨x, 0, none⟩)] W fun e w' =>
      e = .returned (.int .i64 (median ltInt d a b c s).1) ∧ CU w0 blk off N d x (median ltInt d a b c s).2 w' ∧ (median ltInt d a b c s).1 < N ∧ (median ltInt d a b c s).2 ≤ s + 3 := by
  have R : Hid (RowU w0 blk off N) := R
  have h : Hid (CU w0 blk off N d x s W) := h
  obtain ⟨p1, q1, t1, hr1⟩ : ∃ p q t, order2 ltInt d a b s = (p, q, t) := ⟨_, _, _, rfl⟩
  obtain ⟨p2, q2, t2, hr2⟩ : ∃ p q t, order2 ltInt d q1 c t1 = (p, q, t) := ⟨_, _, _, rfl⟩
  obtain ⟨p3, q3, t3, hr3⟩ : ∃ p q t, order2 ltInt d p1 p2 t2 = (p, q, t) := ⟨_, _, _, rfl⟩
  have b1 := order2_lt d s ha hb
  have s1 := order2_swaps d a b s
  rw [hr1] at b1 s1
  dsimp only at b1 s1
  have b2 := order2_lt d t1 b1.2 hc
  have s2 := order2_swaps d q1 c t1
  rw [hr2] at b2 s2
  dsimp only at b2 s2
  have b3 := order2_lt d t2 b1.1 b2.1
  have s3 := order2_swaps d p1 p2 t2
  rw [hr3] at b3 s3
  dsimp only at b3 s3
  have hm : Hid (median ltInt d a b c s = (q3, t3)) := by
    show median ltInt d a b c s = (q3, t3)
    unfold median
    simp only [hr1, hr2, hr3]
  have hr1 : Hid (order2 ltInt d a b s = (p1, q1, t1)) := hr1
  have hr2 : Hid (order2 ltInt d q1 c t1 = (p2, q2, t2)) := hr2
  have hr3 : Hid (order2 ltInt d p1 p2 t2 = (p3, q3, t3)) := hr3
  go_enter Ybaf.func106, Ybaf.ntmps106
  go_wp2_with fail
  refine (order2_any R.out h.out (by omega) hN ha hb cap).mono ?_
  rintro e w1 ⟨rfl, h1⟩
  rw [hr1.out] at h1 ⊢
  dsimp only at h1 ⊢
  have h1 : Hid (CU w0 blk off N d x t1 w1) := h1
  go_wp2_with fail
  refine (order2_any R.out h1.out (by omega) hN b1.2 hc cap).mono ?_
  rintro e w2 ⟨rfl, h2⟩
  rw [hr2.out] at h2 ⊢
  dsimp only at h2 ⊢
  have h2 : Hid (CU w0 blk off N d x t2 w2) := h2
  go_wp2_with fail
  refine (order2_any R.out h2.out (by omega) hN b1.1 b2.1 cap).mono ?_
  rintro e w3 ⟨rfl, h3⟩
  rw [hr3.out] at h3 ⊢
  dsimp only at h3 ⊢
  have h3 : Hid (CU w0 blk off N d x t3 w3) := h3
  go_wp2_with fail
  go_ret
  rw [hm.out]
  exact ⟨rfl, h3.out, b3.2, by dsimp only; omega⟩

set_option maxRecDepth 100000 in
set_option maxHeartbeats 4000000 in
/-- medianAdjacentOrdered at uint64. -/
theorem medadj_any {w0 W : World} {blk off N : Nat} {d : Array Int} (R : RowU w0 blk off N) {x s : Nat} (h : CU w0 blk off N d x s W) (hs : s < 90) (hN : N < 4611686018427387904) {a : Nat} (h1 : 1 ≤ a) (ha : a + 1 < N) (cap : Nat) :
    Calls Ybaf.prog 105 #[.slice (some ⟨blk, off, none⟩) N cap, .int .i64 a, .pointer (some ⟨x, 0, none⟩)] W fun e w' =>
      e = .returned (.int .i64 (medianAdjacent ltInt d a s).1) ∧ CU w0 blk off N d x (medianAdjacent ltInt d a s).2 w' ∧ (medianAdjacent ltInt d a s).1 < N ∧ (medianAdjacent ltInt d a s).2 ≤ s + 3 := by
  have R : Hid (RowU w0 blk off N) := R
  have h : Hid (CU w0 blk off N d x s W) := h
  have e1 : Hid (((a : Int) - 1) = ((a - 1 : Nat) : Int)) := (by omega : ((a : Int) - 1) = ((a - 1 : Nat) : Int))
  have e2 : Hid (((a : Int) + 1) = ((a + 1 : Nat) : Int)) := (by omega : ((a : Int) + 1) = ((a + 1 : Nat) : Int))
  go_enter Ybaf.func105, Ybaf.ntmps105
  go_wp2_with fail
  rw [e1.out, e2.out]
  refine (median_any R.out h.out hs hN (a := a - 1) (b := a) (c := a + 1) (by omega) (by omega) ha cap).mono ?_
  rintro e w1 ⟨rfl, h1, h2, h3⟩
  have h1 : Hid (CU w0 blk off N d x (median ltInt d (a - 1) a (a + 1) s).2 w1) := h1
  go_wp2_with fail
  go_ret
  exact ⟨rfl, h1.out, h2, h3⟩
end Go.Proofs.YbulkcoecFmt
