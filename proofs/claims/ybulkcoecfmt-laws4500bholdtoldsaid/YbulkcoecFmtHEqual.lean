import Derived.Test.YbulkcoecFmtSortTop
import Derived.Test.YbulkcoecFmtHBase
namespace Go.Proofs.YbulkcoecFmt
open Go.RowKit Go.Deep
set_option linter.unusedVariables false
set_option linter.unusedSimpArgs false

/-- A row of numbers of the call's own: its cells. -/
theorem numRow {B n : Nat} {v : Value} {xs : List Int} {w : World} (h : w.ownsRow B 26 1 v n (xs.map (Value.int .u64))) :
    xs.length = n ∧ ((v = .slice none 0 0 ∧ n = 0) ∨ ∃ g cap cur, v = .slice (some ⟨g, 0, none⟩) n cap ∧ B ≤ g ∧ w.heap[g]? = some (.cells cur 26 (0, 0)) ∧ ∀ t, t < n → w.cell? ⟨g, t, none⟩ = some (.int .u64 xs[t]!)) := by
  obtain ⟨hl, hr⟩ := h
  have hlen : xs.length = n := by simpa using hl
  refine ⟨hlen, ?_⟩
  rcases hr with ⟨rfl, h0⟩ | ⟨g, cap, cur, rfl, hB, hg, hc, hm, hs, ht⟩
  · exact .inl ⟨rfl, h0⟩
  · refine .inr ⟨g, cap, cur, rfl, hB, hg, ?_⟩
    intro k hk
    simp only [Nat.mul_one] at ht
    have e : (cur.toList.take n)[k]? = (xs.map (Value.int .u64))[k]? := by rw [ht]
    rw [List.getElem?_take_of_lt hk, List.getElem?_map, List.getElem?_eq_getElem (l := xs) (by omega)] at e
    refine cell_in hg ?_
    rw [getElem!_pos xs k (by omega)]
    simpa using e

set_option maxRecDepth 100000 in
set_option maxHeartbeats 8000000 in
/-- slices.Equal over equal rows of numbers. -/
theorem equal_same {B n : Nat} {v u : Value} {xs : List Int} {w : World} (h1 : w.ownsRow B 26 1 v n (xs.map (Value.int .u64))) (h2 : w.ownsRow B 26 1 u n (xs.map (Value.int .u64))) (hn : n ≤ 900) :
    Calls Ybaf.prog 21 #[v, u] w fun e w' => e = .returned (.bool true) ∧ Stay (fun _ => False) w w' := by
  obtain ⟨hl, h1⟩ := numRow h1
  obtain ⟨_, h2⟩ := numRow h2
  have hst : Hid (∀ q, Stay (fun _ => False) w (w.drewN q)) := fun q => (Stay.refl _ w).drewN q
  rcases h1 with ⟨rfl, h0⟩ | ⟨g, cap, cur, rfl, hB, hg, hc⟩
  · rcases h2 with ⟨rfl, _⟩ | ⟨g2, cap2, cur2, rfl, hB2, hg2, hc2⟩
    · clear hl
      go_enter Ybaf.func21, Ybaf.ntmps21
      go_wp2
      go_loopw [13] (fun va wr => va = .int .i64 0 ∧ wr = w) (fun _ _ => 0)
      case atStart => exact ⟨rfl, rfl⟩
      case round =>
        obtain ⟨rfl, rfl⟩ := hrel
        go_wp2
        go_ret
        exact ⟨rfl, hst.out 0⟩
    · subst h0
      clear hl
      go_enter Ybaf.func21, Ybaf.ntmps21
      go_wp2
      go_loopw [13] (fun va wr => va = .int .i64 0 ∧ wr = w) (fun _ _ => 0)
      case atStart => exact ⟨rfl, rfl⟩
      case round =>
        obtain ⟨rfl, rfl⟩ := hrel
        go_wp2
        go_ret
        exact ⟨rfl, hst.out 0⟩
  · rcases h2 with ⟨rfl, h0⟩ | ⟨g2, cap2, cur2, rfl, hB2, hg2, hc2⟩
    · subst h0
      clear hl
      go_enter Ybaf.func21, Ybaf.ntmps21
      go_wp2
      go_loopw [13] (fun va wr => va = .int .i64 0 ∧ wr = w) (fun _ _ => 0)
      case atStart => exact ⟨rfl, rfl⟩
      case round =>
        obtain ⟨rfl, rfl⟩ := hrel
        go_wp2
        go_ret
        exact ⟨rfl, hst.out 0⟩
    · obtain ⟨G, hG⟩ : ∃ G : Nat → Int, ∀ t, G t = xs[t]! := ⟨fun t => xs[t]!, fun _ => rfl⟩
      replace hc : Hid (∀ t, t < n → w.cell? ⟨g, t, none⟩ = some (.int .u64 (G t))) := fun t ht => by rw [hG]; exact hc t ht
      replace hc2 : Hid (∀ t, t < n → w.cell? ⟨g2, t, none⟩ = some (.int .u64 (G t))) := fun t ht => by rw [hG]; exact hc2 t ht
      clear hG hl
      go_enter Ybaf.func21, Ybaf.ntmps21
      go_wp2
      go_loopw [13] (fun va wr => ∃ i q : Nat, va = .int .i64 i ∧ i ≤ n ∧ wr = w.drewN q) (fun va _ => n - (intOf va).toNat)
      case atStart => exact ⟨0, 0, rfl, by omega, rfl⟩
      case round =>
        obtain ⟨i, q, rfl, hi, hw⟩ := hrel
        by_cases hin : i < n
        · have c1 : wr.cell? ⟨g, i, none⟩ = some (.int .u64 (G i)) := by rw [hw]; exact hc.out i hin
          have c2 : wr.cell? ⟨g2, i, none⟩ = some (.int .u64 (G i)) := by rw [hw]; exact hc2.out i hin
          replace hw : Hid (wr = w.drewN q) := hw
          go_wp2_with fail
          go_quiet (fail)
          go_wp2_with fail
          go_roundw
          case rel => exact ⟨i + 1, q + nq, by go_num, by omega, by rw [hw.out]; exact World.drewN_drewN _ _ _⟩
          case measure => simp [intOf]; omega
        · replace hw : Hid (wr = w.drewN q) := hw
          go_wp2_with fail
          go_ret
          exact ⟨rfl, by rw [hw.out]; exact hst.out q⟩
end Go.Proofs.YbulkcoecFmt
