import Derived.Test.YbulkcoecFmtSortBase
import Derived.Test.YbulkcoecFmtSortShelf
import Derived.Sort.Walk7
namespace Go.Proofs.YbulkcoecFmt
open Go.RowKit Go.Sort
set_option linter.unusedVariables false
set_option linter.unusedSimpArgs false

theorem next_any (rb X : Nat) (hX : X < 18446744073709551616) (w : World) (hc : w.cell? ⟨rb, 0, none⟩ = some (.int .u64 X)) (hf : w.frozen? ⟨rb, 0, none⟩ = false) :
    Calls Ybaf.prog 104 #[.pointer (some ⟨rb, 0, none⟩)] w fun e w' => e = .returned (.int .u64 (xorNextN X : Nat)) ∧ w' = (w.setCell ⟨rb, 0, none⟩ (.int .u64 (xorNextN X : Nat))).drewN 3 :=
  AnyF.xorshift_Next Ybaf.layNext rb 0 X hX w hc hf

theorem pow_any (n : Nat) (hn : n < 4611686018427387904) (w : World) :
    Calls Ybaf.prog 103 #[.int .i64 n] w fun e w' => e = .returned (.int .u64 ((1 <<< bitsLen n : Nat) : Int)) ∧ w' = w :=
  AnyF.nextPowerOfTwo Ybaf.layPow n hn w

theorem len_any (n : Nat) (hn : n < 4611686018427387904) (w : World) :
    Calls Ybaf.prog 42 #[.int .u64 n] w fun e w' => e = .returned (.int .i64 ((bitsLen n : Nat) : Int)) ∧ w' = w := by
  have h := Any.bits_Len (SlLaysF0.n15.bits Ybaf.layLen) (n : Int) w (by omega) (by omega)
  rwa [Int.toNat_natCast, bitLen_eq _ (by omega)] at h

/-- A world of the sort, with the generator's state x in the block c. -/
structure GU (w0 : World) (blk off N : Nat) (d : Array Int) (c x : Nat) (W : World) : Prop where
  su : SU w0 blk off N d W
  cell : W.cell? ⟨c, 0, none⟩ = some (.int .u64 x)
  free : W.frozen? ⟨c, 0, none⟩ = false
  ge : w0.heap.size ≤ c
  lt : c < W.heap.size

theorem GU.next {w0 W : World} {blk off N : Nat} {d : Array Int} {c x : Nat} (h : GU w0 blk off N d c x W) (y : Nat) : GU w0 blk off N d c y ((W.setCell ⟨c, 0, none⟩ (.int .u64 y)).drewN 3) :=
  ⟨⟨h.su.size, (h.su.sw.setCell_new c 0 _ h.ge).drewN 3⟩, by
    show (W.setCell ⟨c, 0, none⟩ (.int .u64 y)).cell? _ = _
    exact World.cell?_setCell_same' _ _ _ (by rw [h.cell]; rfl), by
    show (W.setCell ⟨c, 0, none⟩ (.int .u64 y)).frozen? _ = _
    rw [World.frozen?_setCell]; exact h.free, h.ge, by show c < (W.setCell ⟨c, 0, none⟩ (.int .u64 y)).heap.size; simpa using h.lt⟩

theorem GU.drewN {w0 W : World} {blk off N : Nat} {d : Array Int} {c x : Nat} (h : GU w0 blk off N d c x W) (q : Nat) : GU w0 blk off N d c x (W.drewN q) :=
  ⟨h.su.drewN q, h.cell, h.free, h.ge, h.lt⟩

theorem RowU.lt {w0 : World} {blk off N : Nat} (R : RowU w0 blk off N) : blk < w0.heap.size := by obtain ⟨d0, _, R⟩ := R; exact R.hblk

theorem GU.swp {w0 W : World} {blk off N : Nat} {d : Array Int} {c x : Nat} (R : RowU w0 blk off N) (h : GU w0 blk off N d c x W) {i j : Nat} (hi : i < N) (hj : j < N) {a b : Int} (ha : a = d[j]!) (hb : b = d[i]!) :
    GU w0 blk off N (Sort.swp d i j) c x ((W.setCell ⟨blk, off + i, none⟩ (.int .u64 a)).setCell ⟨blk, off + j, none⟩ (.int .u64 b)) := by
  have hne : c ≠ blk := by have := R.lt; have := h.ge; omega
  refine ⟨h.su.swp R hi hj ha hb, ?_, ?_, h.ge, by simpa using h.lt⟩
  · rw [World.cell?_setCell_other _ _ _ _ (by intro e; simp only [Addr.mk.injEq] at e; exact hne e.1.symm), World.cell?_setCell_other _ _ _ _ (by intro e; simp only [Addr.mk.injEq] at e; exact hne e.1.symm)]; exact h.cell
  · rw [World.frozen?_setCell, World.frozen?_setCell]; exact h.free

theorem GU.start {w0 W : World} {blk off N : Nat} {d : Array Int} (h : SU w0 blk off N d W) (x : Nat) (T : TypeId) : GU w0 blk off N d W.heap.size x (W.alloc (.cells #[.int .u64 x] T)) :=
  ⟨⟨h.size, h.sw.alloc _⟩, by simp, by simp, h.sw.le, by simp⟩

set_option maxRecDepth 100000 in
set_option maxHeartbeats 8000000 in
/-- breakPatternsOrdered at uint64. -/
theorem break_any {w0 W : World} {blk off N : Nat} {d : Array Int} (R : RowU w0 blk off N) (h : SU w0 blk off N d W) (hN : N < 4611686018427387904) {a b : Nat} (h8 : a + 8 ≤ b) (hb : b ≤ N) (cap : Nat) :
    Calls Ybaf.prog 69 #[.slice (some ⟨blk, off, none⟩) N cap, .int .i64 a, .int .i64 b] W fun e w' => e = .returned (.tuple #[]) ∧ SU w0 blk off N (breakPatterns d a b) w' := by
  have R : Hid (RowU w0 blk off N) := R
  obtain ⟨L, rfl⟩ : ∃ L, b = a + L := ⟨b - a, by omega⟩
  rw [breakPatterns_eq d a L (by omega)]
  obtain ⟨D, hD⟩ : ∃ D, W.heap.size = D := ⟨_, rfl⟩
  obtain ⟨M, hM⟩ : ∃ M : Nat, M = 1 <<< bitsLen L := ⟨_, rfl⟩
  have hM1 : 1 ≤ M := by rw [hM, Nat.one_shiftLeft]; exact Nat.two_pow_pos _
  have hM2 : M ≤ 2 * L := by rw [hM, Nat.one_shiftLeft]; exact two_pow_bitsLen_le (by omega)
  have hP : Hid (∀ w, Calls Ybaf.prog 103 #[.int .i64 (L : Int)] w fun e w' => e = .returned (.int .u64 (M : Int)) ∧ w' = w) := by
    show ∀ w, Calls Ybaf.prog 103 #[.int .i64 (L : Int)] w fun e w' => e = .returned (.int .u64 (M : Int)) ∧ w' = w
    rw [hM]; exact fun w => pow_any L (by omega) w
  rw [← hM]
  clear hM
  have hst : Hid (GU w0 blk off N d D (UInt64.ofNat L).toNat (W.alloc (.cells #[.int .u64 (L : Int)] 181))) := by
    rw [← hD, show (UInt64.ofNat L).toNat = L from by simp; omega]; exact GU.start h L 181
  have eL : Hid (((a : Int) + (L : Int) - (a : Int)) = (L : Int)) := (by omega : ((a : Int) + (L : Int) - (a : Int)) = (L : Int))
  go_enter Ybaf.func69, Ybaf.ntmps69
  go_wp2_with fail
  have hc := hP.out (W.alloc (.cells #[.int .u64 (L : Int)] 181))
  try rw [← eL.out] at hc
  refine hc.mono ?_
  rintro e w' ⟨rfl, rfl⟩
  clear hc
  go_wp2_with fail
  go_loopw [9] (fun vi wr => ∃ (t : Nat) (r : UInt64) (dk : Array Int), vi = .int .i64 ((a + L / 4 * 2 - 1 + t : Nat) : Int) ∧ t ≤ 3 ∧ GU w0 blk off N dk D r.toNat wr ∧
      bpRest a L M (a + L / 4 * 2 - 1) (3 - t) t (r, dk) = bpRest a L M (a + L / 4 * 2 - 1) 3 0 (UInt64.ofNat L, d)) (fun vi _ => a + L / 4 * 2 + 3 - (intOf vi).toNat)
  case atStart => exact ⟨0, UInt64.ofNat L, d, by congr 1; omega, by omega, by rw [eL.out]; exact hst.out, rfl⟩
  case round =>
    obtain ⟨t, r, dk, rfl, ht, hs, hO⟩ := hrel
    have hO : Hid (bpRest a L M (a + L / 4 * 2 - 1) (3 - t) t (r, dk) = bpRest a L M (a + L / 4 * 2 - 1) 3 0 (UInt64.ofNat L, d)) := hO
    obtain ⟨X, hX⟩ : ∃ X : Nat, X = r.toNat := ⟨_, rfl⟩
    rw [← hX] at hs
    have lX : X < 18446744073709551616 := by rw [hX]; exact r.toNat_lt
    obtain ⟨Y, hY⟩ : ∃ Y : Nat, Y = xorNextN X := ⟨_, rfl⟩
    have lY : Y < 18446744073709551616 := by rw [hY]; exact xorNextN_lt X lX
    obtain ⟨O, hOO⟩ : ∃ O : Nat, O = Y &&& (M - 1) := ⟨_, rfl⟩
    have lO : O ≤ M - 1 := by rw [hOO]; exact Nat.and_le_right
    have eAnd : bits .and .u64 (Y : Int) ((M : Int) - 1) = (O : Int) := by
      rw [show ((M : Int) - 1) = ((M - 1 : Nat) : Int) by omega, bits_and_u64_nat _ _ lY (by omega), hOO]
    have hN2 : Hid (Y = (xorNext r).toNat ∧ O = (xorNext r).toNat &&& (M - 1)) := by
      have e : Y = (xorNext r).toNat := by rw [hY, hX, xorNext_toNat]
      exact ⟨e, by rw [hOO, e]⟩
    have hnext := next_any D X lX wr hs.cell hs.free
    rw [← hY] at hnext
    have hnext : Hid (Calls Ybaf.prog 104 #[.pointer (some ⟨D, 0, none⟩)] wr fun e w' => e = .returned (.int .u64 (Y : Nat)) ∧ w' = (wr.setCell ⟨D, 0, none⟩ (.int .u64 (Y : Nat))).drewN 3) := hnext
    have hs : Hid (GU w0 blk off N dk D X wr) := hs
    clear hX hY hOO
    by_cases ht3 : t = 3
    · subst ht3
      go_wp2_with fail
      go_end0
      exact ⟨rfl, by rw [← hO.out]; exact hs.out.su⟩
    · go_wp2_with fail
      refine hnext.out.mono ?_
      rintro e w2 ⟨rfl, hw2⟩
      have h2 : GU w0 blk off N dk D Y w2 := by rw [hw2]; exact hs.out.next Y
      clear hw2
      obtain ⟨G, hG, hcw, hfw⟩ := SU.fam R.out h2.su
      have h2 : Hid (GU w0 blk off N dk D Y w2) := h2
      by_cases hLO : L ≤ O
      · obtain ⟨v3, hy3⟩ := cell?_setCell_some (w := w2) (p := ⟨blk, off + (a + L / 4 * 2 - 1 + t), none⟩) (x := .int .u64 (G (a + (O - L)))) (q := ⟨blk, off + (a + (O - L)), none⟩) (hcw (a + (O - L)) (by omega))
        go_wp2_with fail
        go_region
        all_goals go_wp2
        go_roundw
        case rel =>
          refine ⟨t + 1, xorNext r, Sort.swp dk (a + L / 4 * 2 - 1 + t) (a + (O - L)), by first | rfl | (congr 1 <;> omega), by omega, ?_, ?_⟩
          · rw [← hN2.out.1]; exact (h2.out.drewN 1).swp R.out (by omega) (by omega) (hG.out _) (hG.out _)
          · rw [← hO.out, bp_step a L M _ t r dk (O - L) (by omega) (by rw [← hN2.out.2, if_pos (by omega)])]
        case measure => simp [intOf]; omega
      · obtain ⟨v3, hy3⟩ := cell?_setCell_some (w := w2) (p := ⟨blk, off + (a + L / 4 * 2 - 1 + t), none⟩) (x := .int .u64 (G (a + O))) (q := ⟨blk, off + (a + O), none⟩) (hcw (a + O) (by omega))
        go_wp2_with fail
        go_region
        all_goals go_wp2
        go_roundw
        case rel =>
          refine ⟨t + 1, xorNext r, Sort.swp dk (a + L / 4 * 2 - 1 + t) (a + O), by first | rfl | (congr 1 <;> omega), by omega, ?_, ?_⟩
          · rw [← hN2.out.1]; exact (h2.out.drewN 1).swp R.out (by omega) (by omega) (hG.out _) (hG.out _)
          · rw [← hO.out, bp_step a L M _ t r dk O (by omega) (by rw [← hN2.out.2, if_neg (by omega)])]
        case measure => simp [intOf]; omega
end Go.Proofs.YbulkcoecFmt
