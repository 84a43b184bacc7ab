import Derived.Test.YbulkcoecFmtHBase
import Derived.Test.YbulkcoecFmtSortBase
namespace Go.Proofs.YbulkcoecFmt
open Go.RowKit Go.Deep
set_option linter.unusedVariables false
set_option linter.unusedSimpArgs false

/-- cmp.Compare's answer. -/
def cmpI (x y : Int) : Int := if x < y then -1 else if y < x then 1 else 0

theorem cmp_any (x y : Int) (w : World) : Calls Ybaf.prog 129 #[.int .u64 x, .int .u64 y] w fun e w' => e = .returned (.int .i64 (cmpI x y)) ∧ w' = w := by
  by_cases hxy : x < y
  · have e : cmpI x y = -1 := by unfold cmpI; rw [if_pos hxy]
    rw [e]; clear e
    go_enter Ybaf.func129, Ybaf.ntmps129
    go_wp2_with fail
    refine (nan_any x w).mono ?_
    rintro e w' ⟨rfl, rfl⟩
    go_wp2_with fail
    refine (nan_any y _).mono ?_
    rintro e w' ⟨rfl, rfl⟩
    go_wp2_with fail
    go_ret
    exact ⟨rfl, rfl⟩
  · by_cases hyx : y < x
    · have e : cmpI x y = 1 := by unfold cmpI; rw [if_neg hxy, if_pos hyx]
      rw [e]; clear e
      go_enter Ybaf.func129, Ybaf.ntmps129
      go_wp2_with fail
      refine (nan_any x w).mono ?_
      rintro e w' ⟨rfl, rfl⟩
      go_wp2_with fail
      refine (nan_any y _).mono ?_
      rintro e w' ⟨rfl, rfl⟩
      go_wp2_with fail
      go_ret
      exact ⟨rfl, rfl⟩
    · have e : cmpI x y = 0 := by unfold cmpI; rw [if_neg hxy, if_neg hyx]
      rw [e]; clear e
      go_enter Ybaf.func129, Ybaf.ntmps129
      go_wp2_with fail
      refine (nan_any x w).mono ?_
      rintro e w' ⟨rfl, rfl⟩
      go_wp2_with fail
      refine (nan_any y _).mono ?_
      rintro e w' ⟨rfl, rfl⟩
      go_wp2_with fail
      go_ret
      exact ⟨rfl, rfl⟩

theorem idOrder_any (b : Nat) (x y : Int) (w : World) (h : w.cell? ⟨b, 0, none⟩ = some (.int .u64 x)) : Calls Ybaf.prog 117 #[ptr b, .int .u64 y] w fun e w' => e = .returned (.int .i64 (cmpI x y)) ∧ w' = w := by
  have hc : Hid (∀ w, Calls Ybaf.prog 129 #[.int .u64 x, .int .u64 y] w fun e w' => e = .returned (.int .i64 (cmpI x y)) ∧ w' = w) := fun w => cmp_any x y w
  go_enter Ybaf.func117, Ybaf.ntmps117
  go_wp2_with fail
  refine (hc.out w).mono ?_
  rintro e w' ⟨rfl, rfl⟩
  go_wp2_with fail
  go_ret
  exact ⟨rfl, rfl⟩

/-- The ids rise. -/
def Rises (idf : Nat → Int) (l : List Nat) : Prop := ∀ s t, s < t → t < l.length → idf l[s]! ≤ idf l[t]!

set_option maxRecDepth 100000 in
set_option maxHeartbeats 8000000 in
/-- BinarySearchFunc by the id, over a row that is not nil. -/
theorem search_at {B g cap : Nat} {cur : Array Value} {l : List Nat} {w : World} (h : RowAt B g cap cur l w) (idf : Nat → Int) (hid : ∀ b, b ∈ l → w.cell? ⟨b, 0, none⟩ = some (.int .u64 (idf b))) (hr : Rises idf l) (hn : l.length ≤ 900) (y : Int) :
    Calls Ybaf.prog 116 #[.slice (some ⟨g, 0, none⟩) l.length cap, .int .u64 y, .func (.func 117) #[] #[]] w fun e w' =>
      ∃ (i : Nat) (fb : Bool), e = .returned (.tuple #[.int .i64 i, .bool fb]) ∧ w' = w ∧ i ≤ l.length ∧ (∀ t, t < i → idf l[t]! < y) ∧ (∀ t, i ≤ t → t < l.length → y ≤ idf l[t]!) := by
  obtain ⟨n, hnn⟩ : ∃ n, l.length = n := ⟨_, rfl⟩
  obtain ⟨p, hp⟩ : ∃ p : Nat → Nat, ∀ t, p t = l[t]! := ⟨fun t => l[t]!, fun _ => rfl⟩
  have hcw : Hid (∀ t, t < n → w.cell? ⟨g, t, none⟩ = some (.pointer (some ⟨p t, 0, none⟩))) := fun t ht => by rw [hp]; exact h.cell t (by omega)
  have hco : Hid (∀ t, t < n → Calls Ybaf.prog 117 #[.pointer (some ⟨p t, 0, none⟩), .int .u64 y] w fun e w' => e = .returned (.int .i64 (cmpI (idf (p t)) y)) ∧ w' = w) := fun t ht => idOrder_any (p t) _ y w (hid _ (by rw [hp, getElem!_pos l t (by omega)]; exact List.getElem_mem _))
  replace hr : Hid (∀ s t, s < t → t < n → idf (p s) ≤ idf (p t)) := fun s t h1 h2 => by rw [hp, hp]; exact hr s t h1 (by omega)
  replace hp : Hid (∀ t, p t = l[t]!) := hp
  rw [hnn]
  rw [hnn] at hn
  replace hnn : Hid (l.length = n) := hnn
  clear hid h
  have w1 : Hid (w = w) := rfl
  go_enter Ybaf.func116, Ybaf.ntmps116
  go_wp2
  go_loopw [9, 10] (fun va vb wr => ∃ (i j : Nat), va = .int .i64 i ∧ vb = .int .i64 j ∧ i ≤ j ∧ j ≤ n ∧ wr = w ∧ Hid (∀ t, t < i → idf (p t) < y) ∧ Hid (∀ t, j ≤ t → t < n → y ≤ idf (p t))) (fun va vb _ => (intOf vb).toNat - (intOf va).toNat)
  case atStart => exact ⟨0, n, rfl, rfl, by omega, Nat.le_refl _, rfl, fun t ht => absurd ht (by omega), fun t h1 h2 => absurd h2 (by omega)⟩
  case round =>
    obtain ⟨i, j, rfl, rfl, hij, hjn, hw, hlo, hhi⟩ := hrel
    rw [hw]
    clear hw
    by_cases hlt : i < j
    · obtain ⟨m, hm⟩ : ∃ m, m = (i + j) / 2 := ⟨_, rfl⟩
      have hmn : i ≤ m ∧ m < j := by omega
      have em : ((i : Int) + (j : Int)) / 2 = (m : Int) := by omega
      have ww : IntKind.u64.wrap ((i : Int) + (j : Int)) = (i : Int) + (j : Int) := by rw [IntKind.wrap_u64]; omega
      clear hm
      have cm := hcw.out m (by omega)
      go_wp2_with fail
      refine Calls.mono (hco.out m (by omega)) ?_
      rintro e wz ⟨rfl, hwz⟩
      rw [hwz]
      clear hwz
      by_cases hx : idf (p m) < y
      · have hneg : cmpI (idf (p m)) y = -1 := by unfold cmpI; rw [if_pos hx]
        rw [hneg]
        go_wp2_with fail
        go_roundw
        case rel => exact ⟨m + 1, j, by go_num, rfl, by omega, hjn, (by first | exact trivial | rfl), fun t ht => by
          by_cases htm : t = m
          · rw [htm]; exact hx
          · have := hr.out t m (by omega) (by omega); omega, hhi⟩
        case measure => simp [intOf]; omega
      · have hneg : ¬ (cmpI (idf (p m)) y < 0) := by unfold cmpI; rw [if_neg hx]; split <;> omega
        obtain ⟨q, hq⟩ : ∃ q, q = cmpI (idf (p m)) y := ⟨_, rfl⟩
        rw [← hq] at hneg ⊢
        clear hq
        go_wp2_with fail
        go_roundw
        case rel => exact ⟨i, m, rfl, rfl, by omega, by omega, (by first | exact trivial | rfl), hlo, fun t h1 h2 => by
          by_cases htm : t = m
          · rw [htm]; omega
          · have := hr.out m t (by omega) (by omega); omega⟩
        case measure => simp [intOf]; omega
    · have hij2 : i = j := by omega
      subst hij2
      by_cases hin : i < n
      · have cm := hcw.out i hin
        go_wp2_with fail
        refine Calls.mono (hco.out i hin) ?_
        rintro e wz ⟨rfl, hwz⟩
        rw [hwz]
        clear hwz
        obtain ⟨q, hq⟩ : ∃ q, q = cmpI (idf (p i)) y := ⟨_, rfl⟩
        rw [← hq]
        clear hq
        go_wp2_with fail
        go_ret2
        exact ⟨i, _, rfl, rfl, by omega, fun t ht => by rw [← hp.out]; exact hlo.out t ht, fun t h1 h2 => by rw [← hp.out]; exact hhi.out t h1 h2⟩
      · go_wp2_with fail
        go_ret2
        exact ⟨i, _, rfl, rfl, by omega, fun t ht => by rw [← hp.out]; exact hlo.out t ht, fun t h1 h2 => by rw [← hp.out]; exact hhi.out t h1 h2⟩

set_option maxHeartbeats 4000000 in
theorem search_nil (w : World) (y : Int) : Calls Ybaf.prog 116 #[.slice none 0 0, .int .u64 y, .func (.func 117) #[] #[]] w fun e w' => ∃ fb : Bool, e = .returned (.tuple #[.int .i64 0, .bool fb]) ∧ w' = w := by
  go_enter Ybaf.func116, Ybaf.ntmps116
  go_wp2
  go_loopw [9, 10] (fun va vb wr => va = .int .i64 0 ∧ vb = .int .i64 0 ∧ wr = w) (fun _ _ _ => 0)
  case atStart => exact ⟨rfl, rfl, rfl⟩
  case round =>
    obtain ⟨rfl, rfl, rfl⟩ := hrel
    go_wp2_with fail
    go_ret2
    exact ⟨_, rfl, rfl⟩
end Go.Proofs.YbulkcoecFmt
