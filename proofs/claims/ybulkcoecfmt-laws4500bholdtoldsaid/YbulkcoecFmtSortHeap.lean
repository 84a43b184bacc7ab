import Derived.Test.YbulkcoecFmtSortSift
import Derived.Sort.WalkB3
namespace Go.Proofs.YbulkcoecFmt
open Go.RowKit Go.Sort
set_option linter.unusedVariables false
set_option linter.unusedSimpArgs false

set_option maxRecDepth 100000 in
set_option maxHeartbeats 8000000 in
/-- heapSortOrdered at uint64. -/
theorem heap_any {w0 W : World} {blk off N : Nat} {d : Array Int} (R : RowU w0 blk off N) (h : SU w0 blk off N d W) (hN : N < 4611686018427387904) {a b : Nat} (hab : a ≤ b) (hb : b ≤ N) (cap : Nat) :
    Calls Ybaf.prog 68 #[.slice (some ⟨blk, off, none⟩) N cap, .int .i64 a, .int .i64 b] W fun e w' => e = .returned (.tuple #[]) ∧ SU w0 blk off N (heapSort ltInt d a b) w' := by
  have R : Hid (RowU w0 blk off N) := R
  have hst : Hid (((b : Int) - (a : Int) - 1).tdiv 2 = (((b - a - 1) / 2 + 1 : Nat) : Int) - 1) := half_start hab
  have hbv : Hid (((b : Int) - (a : Int)) = ((b - a : Nat) : Int)) := (by omega : ((b : Int) - (a : Int)) = ((b - a : Nat) : Int))
  go_enter Ybaf.func68, Ybaf.ntmps68
  go_wp2
  go_loopw [9] (fun vk wr => ∃ (k : Nat) (dk : Array Int), vk = .int .i64 ((k : Int) - 1) ∧ k ≤ (b - a - 1) / 2 + 1 ∧ SU w0 blk off N dk wr ∧
      heapPop ltInt a (b - a) (heapBuild ltInt (b - a) a k dk) = heapSort ltInt d a b) (fun vk _ => ((intOf vk) + 1).toNat)
  case atStart => exact ⟨(b - a - 1) / 2 + 1, d, by rw [hst.out], Nat.le_refl _, h, rfl⟩
  case round =>
    obtain ⟨k, dk, rfl, hk, hs, hO⟩ := hrel
    have hO : Hid (heapPop ltInt a (b - a) (heapBuild ltInt (b - a) a k dk) = heapSort ltInt d a b) := hO
    have hs : Hid (SU w0 blk off N dk wr) := hs
    by_cases hk0 : k = 0
    · subst hk0
      have e0 : ((0 : Nat) : Int) - 1 = -1 := by omega
      rw [e0]
      go_wp2
      go_loopw [10] (fun vk wr => ∃ (k : Nat) (dk : Array Int), vk = .int .i64 ((k : Int) - 1) ∧ k ≤ b - a ∧ SU w0 blk off N dk wr ∧
          heapPop ltInt a k dk = heapSort ltInt d a b) (fun vk _ => ((intOf vk) + 1).toNat)
      case atStart => exact ⟨b - a, dk, by first | rfl | (congr 1; omega), Nat.le_refl _, hs.out, hO.out⟩
      case round =>
        obtain ⟨m, dm, rfl, hm, hsm, hOm⟩ := hrel
        have hOm : Hid (heapPop ltInt a m dm = heapSort ltInt d a b) := hOm
        by_cases hm0 : m = 0
        · subst hm0
          have hsm : Hid (SU w0 blk off N dm wr) := hsm
          go_wp2
          go_end0
          exact ⟨rfl, by rw [← hOm.out]; exact hsm.out⟩
        · obtain ⟨m, rfl⟩ : ∃ m', m = m' + 1 := ⟨m - 1, by omega⟩
          obtain ⟨G, hG, hcw, hfw⟩ := SU.fam R.out hsm
          have hsm : Hid (SU w0 blk off N dm wr) := hsm
          have em : (((m + 1 : Nat) : Int) - 1) = (m : Int) := by omega
          rw [em]
          obtain ⟨v3, hy3⟩ := cell?_setCell_some (w := wr) (p := ⟨blk, off + a, none⟩) (x := .int .u64 (G (a + m))) (q := ⟨blk, off + (a + m), none⟩) (hcw (a + m) (by omega))
          go_wp2_with fail
          go_region
          all_goals go_wp2_with fail
          refine (sift_any R.out (SU.swp R.out (hsm.out.drewN 1) (by omega) (by omega) (hG.out (a + m)) (hG.out a)) hN (lo := 0) (hi := m) (first := a) (by omega) (by omega) cap).mono ?_
          rintro e w' ⟨rfl, hs'⟩
          have hs' : Hid (SU w0 blk off N (siftDown ltInt m a 0 (Sort.swp dm a (a + m))) w') := hs'
          go_wp2
          go_roundw
          case rel => exact ⟨m, _, rfl, by omega, hs'.out, by rw [← hOm.out]; rfl⟩
          case measure => simp [intOf]
    · obtain ⟨k, rfl⟩ : ∃ k', k = k' + 1 := ⟨k - 1, by omega⟩
      have em : (((k + 1 : Nat) : Int) - 1) = (k : Int) := by omega
      rw [em]
      go_wp2_with fail
      have hc := sift_any R.out hs.out hN (lo := k) (hi := b - a) (first := a) (by omega) (by omega) cap
      rw [← hbv.out] at hc
      refine hc.mono ?_
      clear hc
      rintro e w' ⟨rfl, hs'⟩
      have hs' : Hid (SU w0 blk off N (siftDown ltInt (b - a) a k dk) w') := hs'
      go_wp2
      go_roundw
      case rel => exact ⟨k, _, rfl, by omega, hs'.out, by rw [← hO.out]; rfl⟩
      case measure => simp [intOf]
end Go.Proofs.YbulkcoecFmt
