import Derived.RangeFuncNested
import Derived.RangeFuncBound
import Derived.RangeFuncCalls
import Derived.RangeFuncLeaves
import Derived.RangeFuncFrom
import Derived.RangeFuncWrites
import Derived.Shelf.Abstract
import Derived.Shelf.RegionOpen
import Derived.WalkKit
import Derived.OwnWalkIn
import Derived.TacticsInMore
import Derived.LoopNIn
import Derived.LoopIn
import Derived.Test.YbulkcoguDoorLeaves
import Derived.Test.YbulkcoguDoorBits
namespace Go.Proofs.YbulkcoguDoor
open Go.RowKit Go.Shelf Go.Proofs
set_option linter.unusedVariables false
set_option linter.unusedSimpArgs false

attribute [local go_sem] Oper.semAt_some

theorem members_in (F : Fence) (n : Nat) (h22 : F.fn 22) (hro : F.round = none) (a : Option Addr) (len cap : Nat) (w : World) :
    CallsIn F n Ybad.prog 22 #[.slice a len cap] w fun e w' => e = .returned (.func (.func 28) #[] #[.pointer (some ⟨w.heap.size, 0, none⟩)]) ∧ w' = w.alloc (.cells #[.slice a len cap] 23) := by
  refine callsIn_of_wp Ybad.func22 rfl h22 ?_ hro
  simp only [Ybad.ntmps22, List.size_toArray, List.length_cons, List.length_nil, Nat.reduceAdd, Nat.reduceSub, Array.replicate_succ, Array.replicate_zero, List.push_toArray, List.append_toArray, List.nil_append, List.cons_append]
  gi_wp2
  go_ret
  exact ⟨rfl, rfl⟩

abbrev Nd (n : Nat) := { u : Nat // u < n }

set_option maxRecDepth 100000 in
set_option maxHeartbeats 2000000 in
theorem members1_in (n : Nat) (hn : 1 ≤ n) (l Bs n₀ bB at_ N x : Nat) (hN : N ≤ 9) (hx : x < 512) (hxN : ∀ u ∈ ones 9 x, u < N) (hb : bB < n₀) (hn0 : 0 < n₀) (J Jx : List (Nd N) → World → Prop)
    (hY : ∀ pre y W, J pre W → pre.length < 100 → YieldAt Fence.wide (n - 1) Ybad.prog l #[.int .i64 (y.1 : Nat)] W fun e W' =>
      (e = .returned (.bool true) ∧ J (pre ++ [y]) W' ∧ Below n₀ W W') ∨ (e = .returned (.bool false) ∧ Jx (pre ++ [y]) W'))
    (W : World) (hBs : W.cell? ⟨Bs, 0, none⟩ = some (.slice (some ⟨bB, at_, none⟩) 1 1)) (hc : W.cell? ⟨bB, at_, none⟩ = some (.int .u64 x)) (hT : TabAt 0 Lib.deBruijn64tab W) (h0 : J [] W) :
    CallsIn Fence.wide n Ybad.prog 28 #[.func (.yield l) #[] #[], .pointer (some ⟨Bs, 0, none⟩)] W fun e W' => (∃ v, e = .returned v) ∧
      ((∃ ys, ys.map (·.1) = ones 9 x ∧ J ys W') ∨ (∃ pre, True ∧ Jx pre W')) := by
  refine callsIn_of_wp Ybad.func28 rfl trivial ?_ rfl
  simp only [Ybad.ntmps28, List.size_toArray, List.length_cons, List.length_nil, Nat.reduceAdd, Nat.reduceSub, Array.replicate_succ, Array.replicate_zero, List.push_toArray, List.append_toArray, List.nil_append, List.cons_append]
  gi_wp2
  gi_loopw [7] (fun i wr => (i = .int .i64 0 ∧ J [] wr ∧ wr = W) ∨ (i = .int .i64 1 ∧ ∃ ys, ys.map (·.1) = ones 9 x ∧ J ys wr)) (fun i _ => 2 - (intOf i).toNat)
  case atStart => exact .inl ⟨rfl, h0, rfl⟩
  case round =>
    rcases hrel with ⟨rfl, hJ0, hwr⟩ | ⟨rfl, ys, hys, hJs⟩
    · have hwr' := hwr.symm
      subst hwr'
      have HY : Hid (∀ pre y W, J pre W → pre.length < 100 → YieldAt Fence.wide (n - 1) Ybad.prog l #[.int .i64 (y.1 : Nat)] W fun e W' =>
        (e = .returned (.bool true) ∧ J (pre ++ [y]) W' ∧ Below n₀ W W') ∨ (e = .returned (.bool false) ∧ Jx (pre ++ [y]) W')) := hY
      have HT : Hid (TabAt 0 Lib.deBruijn64tab W) := hT
      have HXN : Hid (∀ u ∈ ones 9 x, u < N) := hxN
      clear hY hT hxN
      gi_wp2
      gi_loopw [4] (fun v w2 => ∃ (cur : Nat) (pre : List (Nd N)), v = .int .u64 cur ∧ cur ≤ x ∧ pre.map (·.1) ++ ones 9 cur = ones 9 x ∧ J pre w2 ∧ Below n₀ W w2) (fun v _ => (intOf v).toNat)
      case atStart => exact ⟨x, [], rfl, Nat.le_refl _, rfl, hJ0, Below.refl _ _⟩
      case round =>
        obtain ⟨cur, pre, rfl, hcx, hpre, hJp, hbl⟩ := hrel
        have HPRE : Hid (pre.map (·.1) ++ ones 9 cur = ones 9 x) := hpre
        have hTw : TabAt 0 Lib.deBruijn64tab wr := fun j hj => (hbl.cell (p := ⟨0, j, none⟩) hn0).trans (HT.out j hj)
        have hlenp : pre.length < 100 := by
          have := congrArg List.length hpre
          have h9 : (ones 9 x).length ≤ 9 := by
            have := List.length_filter_le (fun u => x.testBit u) (List.range 9)
            simpa [ones] using this
          simp at this
          omega
        clear hpre
        by_cases hz : cur = 0
        · subst hz
          gi_wp2
          go_roundw
          case rel => exact .inr ⟨rfl, pre, by have h := HPRE.out; rw [show ones 9 0 = [] from by decide, List.append_nil] at h; exact h, hJp⟩
          case measure => simp [intOf]
        · obtain ⟨hl1, hl2⟩ := ones_low (by omega) hz
          have hmem : Lib.ctz 64 cur < N := HXN.out _ (by rw [← HPRE.out, hl1]; simp)
          obtain ⟨k, hk⟩ : ∃ k, k = Lib.ctz 64 cur := ⟨_, rfl⟩
          rw [← hk] at hl1 hmem
          have ct := tz_any cur (by omega) hz wr hTw
          rw [← hk] at ct
          have HL1 : Hid (ones 9 cur = k :: ones 9 (cur &&& (cur - 1))) := hl1
          clear hk hl1
          have hland : bits BinOp.and IntKind.u64 (cur : Int) ((cur : Int) - 1) = ((cur &&& (cur - 1) : Nat) : Int) := by
            have := bits_and_u64_nat cur (cur - 1) (by omega) (by omega)
            rwa [show ((cur - 1 : Nat) : Int) = (cur : Int) - 1 by omega] at this
          have hk9 : k < 9 := by omega
          obtain ⟨fn, tmps, assign, body, hy, hR⟩ := HY.out pre ⟨k, hmem⟩ wr hJp hlenp
          dsimp only at hy
          have hcI : ((cur : Int) == 0) = false := by simp; omega
          gi_wp2_with (first | (gi_at_call 26; refine (callsIn_wide.2 ct).mono ?_; rintro e w' ⟨rfl, rfl⟩) | (refine ⟨trivial, ?_⟩; gi_at_call 26; refine (callsIn_wide.2 ct).mono ?_; rintro e w' ⟨rfl, rfl⟩))
          refine hR.mono ?_
          rintro e W3 (⟨rfl, hJ3, hk3⟩ | ⟨rfl, hJx3⟩)
          · gi_wp2
            refine ⟨⟨cur &&& (cur - 1), pre ++ [⟨k, hmem⟩], rfl, by omega, ?_, hJ3, hbl.trans hk3⟩, ?_⟩
            · rw [← HPRE.out, HL1.out]
              simp
            · simp [intOf]
              omega
          · gi_wp2
            refine bodyPost_ret (results_none rfl _ _ _) rfl ?_
            exact ⟨⟨_, rfl⟩, .inr ⟨_, trivial, hJx3⟩⟩
    · gi_wp2
      go_end0
      exact ⟨⟨_, rfl⟩, .inl ⟨ys, hys, hJs⟩⟩
end Go.Proofs.YbulkcoguDoor
