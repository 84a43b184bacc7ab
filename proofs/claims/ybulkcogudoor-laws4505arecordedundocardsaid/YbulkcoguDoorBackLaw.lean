import Derived.Test.YbulkcoguDoorUnpRec
namespace Go.Proofs.YbulkcoguDoor
set_option linter.unusedVariables false
set_option linter.unusedSimpArgs false

theorem given_ones {add : Nat → Nat} (hadd : ∀ v, add v < 512) (f : Nat → Int) (x u : Nat) : ∀ k, given add f (ones k x) u = f u + sumW (fun v => if x.testBit v then bit (add v) u else 0) k
  | 0 => by simp [given, ones, sumW]
  | k + 1 => by
    have ih := given_ones hadd f x u k
    simp only [sumW]
    cases hb : x.testBit k with
    | true =>
      have e : ones (k + 1) x = ones k x ++ [k] := by simp [ones, List.range_succ, List.filter_append, hb]
      rw [e, given_snoc, bump_ones (hadd k), ih]
      simp
      omega
    | false =>
      have e : ones (k + 1) x = ones k x := by simp [ones, List.range_succ, List.filter_append, hb]
      rw [e, ih]
      simp

/-- The state behind a placement taken back is that ahead of it. -/
theorem Inv.taken {add : Nat → Nat} {rd : Nat → List Nat} {wait : Nat → Int} {m s : Nat} {pl : List Nat} {c c' d : PS} (h : Inv add rd wait m s pl c) {i : Nat} (h' : Inv add rd wait m s (pl ++ [i]) c') (hm : m + s ≤ 9) (hadd : ∀ v, add v < 512) (hi : i < m) (hn : i ∉ pl) (hnd : (rd i).Nodup)
    (e1 : d.live = c.live) (e2 : d.wt = given add c'.wt (ones 9 (gone c.live c'.live))) (e3 : d.lf = back (rd i) c'.lf) : Inv add rd wait m s pl d := by
  have hl5 := pow_le_512 hm
  have hlt := h.lt
  have hlt' := h'.lt
  have hP : ∀ g, Pn rd m pl g ≤ Pn rd m (pl ++ [i]) g := fun g => by
    by_cases hg : g ∈ rd i
    · rw [Pn_push_in hi hn hg]; omega
    · rw [Pn_push_out hg]; exact Nat.le_refl _
  have hsub : ∀ v, c'.live.testBit v = true → c.live.testBit v = true := fun v hv => by
    by_cases h1 : v < m
    · rw [h'.mem v h1] at hv
      rw [h.mem v h1]
      simp at hv ⊢
      exact hv.1
    · by_cases h2 : v < m + s
      · obtain ⟨g, rfl⟩ : ∃ g, v = m + g := ⟨v - m, by omega⟩
        have hg : g < s := by omega
        rw [h'.seg g hg] at hv
        rw [h.seg g hg]
        have h3 := hP g
        have h4 : Pn rd m (pl ++ [i]) g ≤ Cn rd m g := Pn_le
        simp at hv ⊢
        omega
      · rw [Nat.testBit_lt_two_pow (Nat.lt_of_lt_of_le hlt' (Nat.pow_le_pow_right (n := 2) (by omega) (by omega)))] at hv
        cases hv
  refine ⟨fun v hv => by rw [e1]; exact h.mem v hv, fun g hg => by rw [e1]; exact h.seg g hg, by rw [e1]; exact hlt, fun u => ?_, fun g hg => ?_⟩
  · rw [e1, e2, given_ones hadd, h'.wt u]
    unfold Wt
    have hs := sumW_add (fun v => if (gone c.live c'.live).testBit v then bit (add v) u else 0) (fun v => if c.live.testBit v then 0 else bit (add v) u) 9
    rw [sumW_congr (g := fun v => if c'.live.testBit v then 0 else bit (add v) u)] at hs
    · omega
    · intro v hv
      rw [gone_bit (by omega) (by omega)]
      cases hb' : c'.live.testBit v with
      | true => rw [hsub v hb']; simp
      | false =>
        cases hb : c.live.testBit v with
        | true => simp
        | false => simp
  · rw [e3]
    have e : back (rd i) c'.lf g = c'.lf g + if g ∈ rd i then 1 else 0 := bump_at 1 (rd i) hnd c'.lf g
    rw [e, h'.lf g hg]
    by_cases hgi : g ∈ rd i
    · rw [if_pos hgi, Pn_push_in hi hn hgi]; omega
    · rw [if_neg hgi, Pn_push_out hgi]; omega
end Go.Proofs.YbulkcoguDoor
