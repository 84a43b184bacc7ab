import Derived.Test.YbulkcoecFmtHHeapTwo
namespace Go.Proofs.YbulkcoecFmt
open Go.RowKit Go.Deep
set_option linter.unusedVariables false
set_option linter.unusedSimpArgs false

/-- A world in the heap's work: the row is a permutation of what it was. -/
structure Hp (B g cap n bM : Nat) (l : List Nat) (w W : World) : Prop where
  row : ∃ cur l', RowAt B g cap cur l' W ∧ l'.Perm l
  st : Stay (fun x => x = g) w W

/-- What it starts from. -/
structure Hp0 (B g cap n bM : Nat) (l : List Nat) (w : World) : Prop where
  row : ∃ cur, RowAt B g cap cur l w
  len : l.length = n
  cm : w.cell? ⟨bM, 10, none⟩ = some (.slice (some ⟨g, 0, none⟩) n cap)
  lt : bM < w.heap.size
  ne : bM ≠ g
  pk : ∀ b, b ∈ l → Pok w b

theorem Hp.idle {B g cap n bM : Nat} {l : List Nat} {w W W' : World} (h : Hp B g cap n bM l w W) (hs : Stay (fun _ => False) W W') : Hp B g cap n bM l w W' := by
  obtain ⟨cur, l', h1, h2⟩ := h.row
  exact ⟨⟨cur, l', h1.stay hs (fun e => e), h2⟩, h.st.trans (hs.mono (fun _ _ e => e.elim))⟩

theorem Hp.cm {B g cap n bM : Nat} {l : List Nat} {w W : World} (h0 : Hp0 B g cap n bM l w) (h : Hp B g cap n bM l w W) : W.cell? ⟨bM, 10, none⟩ = some (.slice (some ⟨g, 0, none⟩) n cap) := by
  rw [h.st.cell h0.lt h0.ne]; exact h0.cm

theorem Hp.less {B g cap n bM : Nat} {l : List Nat} {w W : World} (h0 : Hp0 B g cap n bM l w) (h : Hp B g cap n bM l w W) (hn : n ≤ 900) {i j : Nat} (hi : i < n) (hj : j < n) :
    Calls Ybaf.prog 157 #[.slice (some ⟨g, 0, none⟩) n cap, .int .i64 i, .int .i64 j] W fun e w' => IsB e ∧ Hp B g cap n bM l w w' := by
  obtain ⟨cur, l', h1, h2⟩ := h.row
  have hl : l'.length = n := by rw [h2.length_eq, h0.len]
  have := fless_any h1 (fun b hb => (h0.pk b (h2.mem_iff.1 hb)).stay h.st (by
    rintro rfl
    obtain ⟨arr, x, y, e1, _⟩ := h0.pk b (h2.mem_iff.1 hb)
    obtain ⟨c0, e2⟩ := h0.row
    exact other_of e1 e2.at_ (by decide) rfl)) (i := i) (j := j) (by omega) (by omega) (by omega)
  rw [hl] at this
  exact this.mono fun e w' ⟨a, b⟩ => ⟨a, h.idle b⟩

theorem Hp.swap {B g cap n bM : Nat} {l : List Nat} {w W : World} (h0 : Hp0 B g cap n bM l w) (h : Hp B g cap n bM l w W) (hn : n ≤ 900) {i j : Nat} (hi : i < n) (hj : j < n) :
    Calls Ybaf.prog 158 #[.slice (some ⟨g, 0, none⟩) n cap, .int .i64 i, .int .i64 j] W fun e w' => e = .returned (.tuple #[]) ∧ Hp B g cap n bM l w w' := by
  obtain ⟨cur, l', h1, h2⟩ := h.row
  have hl : l'.length = n := by rw [h2.length_eq, h0.len]
  have := fswap_any h1 (i := i) (j := j) (by omega) (by omega) (by omega)
  rw [hl] at this
  exact this.mono fun e w' ⟨a, cur', b, c⟩ => ⟨a, ⟨cur', _, b, (swpL_perm l' i j (by omega) (by omega)).trans h2⟩, h.st.trans c⟩

set_option maxRecDepth 100000 in
set_option maxHeartbeats 16000000 in
/-- heap.down. -/
theorem down_any {B g cap n bM : Nat} {l : List Nat} {w : World} (h0 : Hp0 B g cap n bM l w) {W : World} (h : Hp B g cap n bM l w W) (hn : n ≤ 900) {i0 : Nat} (hi0 : i0 < n) :
    Calls Ybaf.prog 133 #[.iface 198 (.pointer (some ⟨bM, 10, none⟩)), .int .i64 i0, .int .i64 n] W fun e w' => IsB e ∧ Hp B g cap n bM l w w' := by
  replace h0 : Hid (Hp0 B g cap n bM l w) := h0
  go_enter Ybaf.func133, Ybaf.ntmps133
  go_wp2
  go_loopw [7] (fun vi wr => ∃ i : Nat, vi = .int .i64 i ∧ i < n ∧ Hp B g cap n bM l w wr) (fun vi _ => n - (intOf vi).toNat)
  case atStart => exact ⟨i0, rfl, hi0, h⟩
  case round =>
    obtain ⟨i, rfl, hin, hw⟩ := hrel
    have cM := hw.cm h0.out
    have mL := method_any "Less" 157 _ _ wr mLess cM
    replace hw : Hid (Hp B g cap n bM l w wr) := hw
    by_cases hc : n ≤ 2 * i + 1
    · have hcz : (n : Int) ≤ 2 * (i : Int) + 1 := by omega
      go_wp2_with fail
      go_ret
      exact ⟨⟨_, rfl⟩, hw.out⟩
    · have hcz : ¬ ((n : Int) ≤ 2 * (i : Int) + 1) := by omega
      have hcy : ¬ (2 * (i : Int) + 1 < 0) := by omega
      by_cases hd : 2 * i + 2 < n
      · have hdz : 2 * (i : Int) + 1 + 1 < (n : Int) := by omega
        have hl1 := hw.out.less h0.out hn (i := 2 * i + 2) (j := 2 * i + 1) hd (by omega)
        rw [show ((2 * i + 2 : Nat) : Int) = 2 * (i : Int) + 1 + 1 by omega, show ((2 * i + 1 : Nat) : Int) = 2 * (i : Int) + 1 by omega] at hl1
        replace hl1 : Hid _ := hl1
        go_wp2_with fail
        refine Calls.mono hl1.out ?_
        rintro e w1 ⟨⟨z, rfl⟩, hw1⟩
        clear mL cM hl1 hw
        have cM := hw1.cm h0.out
        have mL := method_any "Less" 157 _ _ w1 mLess cM
        replace hw1 : Hid (Hp B g cap n bM l w w1) := hw1
        cases z with
        | true =>
          have hl2 := hw1.out.less h0.out hn (i := 2 * i + 2) (j := i) (by omega) hin
          rw [show ((2 * i + 2 : Nat) : Int) = 2 * (i : Int) + 1 + 1 by omega] at hl2
          replace hl2 : Hid _ := hl2
          go_wp2_with fail
          refine Calls.mono hl2.out ?_
          rintro e w2 ⟨⟨z2, rfl⟩, hw2⟩
          clear mL cM hl2
          have cM := hw2.cm h0.out
          have mS := method_any "Swap" 158 _ _ w2 mSwap cM
          have hsw := hw2.swap h0.out hn (i := i) (j := 2 * i + 2) hin (by omega)
          rw [show ((2 * i + 2 : Nat) : Int) = 2 * (i : Int) + 1 + 1 by omega] at hsw
          replace hsw : Hid _ := hsw
          replace hw2 : Hid (Hp B g cap n bM l w w2) := hw2
          cases z2 with
          | false =>
            go_wp2_with fail
            go_ret
            exact ⟨⟨_, rfl⟩, hw2.out⟩
          | true =>
            go_wp2_with fail
            refine Calls.mono hsw.out ?_
            rintro e w3 ⟨rfl, hw3⟩
            replace hw3 : Hid (Hp B g cap n bM l w w3) := hw3
            go_wp2_with fail
            go_roundw
            case rel => exact ⟨2 * i + 2, by first | rfl | (congr 1 <;> omega), by omega, hw3.out⟩
            case measure => simp [intOf]; omega
        | false =>
          have hl2 := hw1.out.less h0.out hn (i := 2 * i + 1) (j := i) (by omega) hin
          rw [show ((2 * i + 1 : Nat) : Int) = 2 * (i : Int) + 1 by omega] at hl2
          replace hl2 : Hid _ := hl2
          go_wp2_with fail
          refine Calls.mono hl2.out ?_
          rintro e w2 ⟨⟨z2, rfl⟩, hw2⟩
          clear mL cM hl2
          have cM := hw2.cm h0.out
          have mS := method_any "Swap" 158 _ _ w2 mSwap cM
          have hsw := hw2.swap h0.out hn (i := i) (j := 2 * i + 1) hin (by omega)
          rw [show ((2 * i + 1 : Nat) : Int) = 2 * (i : Int) + 1 by omega] at hsw
          replace hsw : Hid _ := hsw
          replace hw2 : Hid (Hp B g cap n bM l w w2) := hw2
          cases z2 with
          | false =>
            go_wp2_with fail
            go_ret
            exact ⟨⟨_, rfl⟩, hw2.out⟩
          | true =>
            go_wp2_with fail
            refine Calls.mono hsw.out ?_
            rintro e w3 ⟨rfl, hw3⟩
            replace hw3 : Hid (Hp B g cap n bM l w w3) := hw3
            go_wp2_with fail
            go_roundw
            case rel => exact ⟨2 * i + 1, by first | rfl | (congr 1 <;> omega), by omega, hw3.out⟩
            case measure => simp [intOf]; omega
      · have hdz : ¬ (2 * (i : Int) + 1 + 1 < (n : Int)) := by omega
        have hl2 := hw.out.less h0.out hn (i := 2 * i + 1) (j := i) (by omega) hin
        rw [show ((2 * i + 1 : Nat) : Int) = 2 * (i : Int) + 1 by omega] at hl2
        replace hl2 : Hid _ := hl2
        go_wp2_with fail
        refine Calls.mono hl2.out ?_
        rintro e w2 ⟨⟨z2, rfl⟩, hw2⟩
        clear mL cM hl2
        have cM := hw2.cm h0.out
        have mS := method_any "Swap" 158 _ _ w2 mSwap cM
        have hsw := hw2.swap h0.out hn (i := i) (j := 2 * i + 1) hin (by omega)
        rw [show ((2 * i + 1 : Nat) : Int) = 2 * (i : Int) + 1 by omega] at hsw
        replace hsw : Hid _ := hsw
        replace hw2 : Hid (Hp B g cap n bM l w w2) := hw2
        cases z2 with
        | false =>
          go_wp2_with fail
          go_ret
          exact ⟨⟨_, rfl⟩, hw2.out⟩
        | true =>
          go_wp2_with fail
          refine Calls.mono hsw.out ?_
          rintro e w3 ⟨rfl, hw3⟩
          replace hw3 : Hid (Hp B g cap n bM l w w3) := hw3
          go_wp2_with fail
          go_roundw
          case rel => exact ⟨2 * i + 1, by first | rfl | (congr 1 <;> omega), by omega, hw3.out⟩
          case measure => simp [intOf]; omega

set_option maxRecDepth 100000 in
set_option maxHeartbeats 4000000 in
/-- heap.Init over a row that is not nil. -/
theorem init_at {B g cap n bM : Nat} {l : List Nat} {w : World} (h0 : Hp0 B g cap n bM l w) (hn : n ≤ 900) :
    Calls Ybaf.prog 121 #[.iface 198 (.pointer (some ⟨bM, 10, none⟩))] w fun e w' => e = .returned (.tuple #[]) ∧ Hp B g cap n bM l w w' := by
  have mN := method_any "Len" 156 _ _ w mLen h0.cm
  have hst : Hid (Hp B g cap n bM l w w) := by
    obtain ⟨cur, h1⟩ := h0.row
    exact ⟨⟨cur, l, h1, List.Perm.refl _⟩, Stay.refl _ _⟩
  replace h0 : Hid (Hp0 B g cap n bM l w) := h0
  have hq : Hid ((n : Int).tdiv 2 - 1 = ((n / 2 : Nat) : Int) - 1) := by
    show (n : Int).tdiv 2 - 1 = ((n / 2 : Nat) : Int) - 1
    rw [Int.tdiv_eq_ediv_of_nonneg (by omega)]; omega
  go_enter Ybaf.func121, Ybaf.ntmps121
  go_wp2_with fail
  refine (flen_any _ _ n cap rfl w).mono ?_
  rintro e wz ⟨rfl, hwz⟩
  rw [hwz]
  clear hwz
  go_wp2_with fail
  go_loopw [3] (fun vk wr => ∃ k : Nat, vk = .int .i64 ((k : Int) - 1) ∧ k ≤ n / 2 ∧ Hp B g cap n bM l w wr) (fun vk _ => ((intOf vk) + 1).toNat)
  case atStart => exact ⟨n / 2, by first | rfl | (rw [hq.out]) | (congr 1; omega), Nat.le_refl _, hst.out⟩
  case round =>
    obtain ⟨k, rfl, hk, hw⟩ := hrel
    replace hw : Hid (Hp B g cap n bM l w wr) := hw
    by_cases hk0 : k = 0
    · subst hk0
      go_wp2
      go_end0
      exact ⟨rfl, hw.out⟩
    · obtain ⟨k, rfl⟩ : ∃ k', k = k' + 1 := ⟨k - 1, by omega⟩
      have em : (((k + 1 : Nat) : Int) - 1) = (k : Int) := by omega
      rw [em]
      go_wp2_with fail
      refine (down_any h0.out hw.out hn (i0 := k) (by omega)).mono ?_
      rintro e w' ⟨⟨z, rfl⟩, hs'⟩
      replace hs' : Hid (Hp B g cap n bM l w w') := hs'
      go_wp2
      go_roundw
      case rel => exact ⟨k, rfl, by omega, hs'.out⟩
      case measure => simp [intOf]

set_option maxRecDepth 100000 in
set_option maxHeartbeats 4000000 in
theorem init_nil (bM : Nat) (w : World) (hc : w.cell? ⟨bM, 10, none⟩ = some (.slice none 0 0)) :
    Calls Ybaf.prog 121 #[.iface 198 (.pointer (some ⟨bM, 10, none⟩))] w fun e w' => e = .returned (.tuple #[]) ∧ w' = w := by
  have mN := method_any "Len" 156 _ _ w mLen hc
  go_enter Ybaf.func121, Ybaf.ntmps121
  go_wp2_with fail
  refine (flen_any _ _ 0 0 rfl w).mono ?_
  rintro e wz ⟨rfl, hwz⟩
  rw [hwz]
  clear hwz
  go_wp2_with fail
  go_loopw [3] (fun vk wr => vk = .int .i64 (-1) ∧ wr = w) (fun _ _ => 0)
  case atStart => exact ⟨rfl, rfl⟩
  case round =>
    obtain ⟨rfl, rfl⟩ := hrel
    go_wp2
    go_end0
    exact ⟨rfl, rfl⟩
end Go.Proofs.YbulkcoecFmt
