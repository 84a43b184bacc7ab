import Derived.Test.YbulkcoecFmtHHeap
namespace Go.Proofs.YbulkcoecFmt
open Go.RowKit Go.Deep
set_option linter.unusedVariables false
set_option linter.unusedSimpArgs false

theorem Pok.stay {S : Nat → Prop} {w w' : World} {b : Nat} (h : Pok w b) (hs : Stay S w w') (hn : ¬ S b) : Pok w' b := by
  obtain ⟨arr, x, y, h1, h2, h3⟩ := h
  exact ⟨arr, x, y, hs.at_ h1 hn, h2, h3⟩

/-- Some bool comes back. -/
def IsB (e : Ending) : Prop := ∃ z : Bool, e = .returned (.bool z)

set_option maxRecDepth 100000 in
set_option maxHeartbeats 8000000 in
/-- flight.Less. -/
theorem fless_any {B g cap : Nat} {cur : Array Value} {l : List Nat} {w : World} (h : RowAt B g cap cur l w) (hp : ∀ b, b ∈ l → Pok w b) {i j : Nat} (hi : i < l.length) (hj : j < l.length) (hn : l.length ≤ 900) :
    Calls Ybaf.prog 157 #[.slice (some ⟨g, 0, none⟩) l.length cap, .int .i64 i, .int .i64 j] w fun e w' => IsB e ∧ Stay (fun _ => False) w w' := by
  obtain ⟨n, hnn⟩ : ∃ n, l.length = n := ⟨_, rfl⟩
  obtain ⟨p, hpp⟩ : ∃ p, l[i]! = p := ⟨_, rfl⟩
  obtain ⟨q, hqq⟩ : ∃ q, l[j]! = q := ⟨_, rfl⟩
  have ci := h.cell i hi
  have cj := h.cell j hj
  rw [hpp] at ci
  rw [hqq] at cj
  have P1 : Pok w p := hp p (by rw [← hpp, getElem!_pos l i hi]; exact List.getElem_mem _)
  have P2 : Pok w q := hp q (by rw [← hqq, getElem!_pos l j hj]; exact List.getElem_mem _)
  have hby : Hid (Calls Ybaf.prog 159 #[.pointer (some ⟨p, 0, none⟩), .pointer (some ⟨q, 0, none⟩)] w.drew fun e w' => ∃ z : Int, e = .returned (.int .i64 z) ∧ Stay (fun _ => False) w.drew w') := byDue_any p q w.drew P1 P2
  have HS : Hid ((fun w' : World => w'.cell? ⟨g, i, none⟩ = some (.pointer (some ⟨p, 0, none⟩)) ∧ w'.cell? ⟨g, j, none⟩ = some (.pointer (some ⟨q, 0, none⟩))) w.drew) := ⟨ci, cj⟩
  have hS2 : Hid (∀ w', Stay (fun _ => False) w.drew w' → (fun w' : World => w'.cell? ⟨g, i, none⟩ = some (.pointer (some ⟨p, 0, none⟩)) ∧ w'.cell? ⟨g, j, none⟩ = some (.pointer (some ⟨q, 0, none⟩))) w') := fun w' hs => by
    have h1 := h.stay (Stay.of_drew hs) (fun e => e)
    have d1 := h1.cell i hi
    have d2 := h1.cell j hj
    rw [hpp] at d1
    rw [hqq] at d2
    exact ⟨d1, d2⟩
  rw [hnn] at hi hj hn ⊢
  clear h hp P1 P2 ci cj hpp hqq hnn
  go_enter Ybaf.func157, Ybaf.ntmps157
  go_upto_region 1 with (fail)
  refine wp_region_L (fun w' : World => w'.cell? ⟨g, i, none⟩ = some (.pointer (some ⟨p, 0, none⟩)) ∧ w'.cell? ⟨g, j, none⟩ = some (.pointer (some ⟨q, 0, none⟩))) 10 11 (by kernel_rfl) (by kernel_rfl) ?_
  refine wpU_take (i := 0) (v := ?_) rfl (by kernel_rfl) (by kernel_rfl) (by kernel_rfl) (by kernel_rfl) (fun _ _ _ h => h) (by rfl) ?_ HS.out ?_
  rotate_left
  · (intro wS hwS; (try dsimp only at hwS); go_simp; try with_reducible rfl)
  simp only [Act.put, List.getElem_toArray, List.getElem_cons_zero, List.getElem_cons_succ, List.setIfInBounds_toArray, List.set_cons_zero, List.set_cons_succ]
  refine wpU_take (i := 1) (v := ?_) rfl (by kernel_rfl) (by kernel_rfl) (by kernel_rfl) (by kernel_rfl) (fun _ _ _ h => h) (by rfl) ?_ HS.out ?_
  rotate_left
  · (intro wS hwS; (try dsimp only at hwS); go_simp; try with_reducible rfl)
  simp only [Act.put, List.getElem_toArray, List.getElem_cons_zero, List.getElem_cons_succ, List.setIfInBounds_toArray, List.set_cons_zero, List.set_cons_succ]
  refine wpU_take (i := 2) (v := ?_) rfl (by kernel_rfl) (by kernel_rfl) (by kernel_rfl) (by kernel_rfl) (fun _ _ _ h => h) (by rfl) ?_ HS.out ?_
  rotate_left
  · (intro wS hwS; (try dsimp only at hwS); go_simp; try with_reducible rfl)
  simp only [Act.put, List.getElem_toArray, List.getElem_cons_zero, List.getElem_cons_succ, List.setIfInBounds_toArray, List.set_cons_zero, List.set_cons_succ]
  refine wpU_take (i := 3) (v := ?_) rfl (by kernel_rfl) (by kernel_rfl) (by kernel_rfl) (by kernel_rfl) (fun _ _ _ h => h) (by rfl) ?_ HS.out ?_
  rotate_left
  · (intro wS hwS; (try dsimp only at hwS); go_simp; try with_reducible rfl)
  simp only [Act.put, List.getElem_toArray, List.getElem_cons_zero, List.getElem_cons_succ, List.setIfInBounds_toArray, List.set_cons_zero, List.set_cons_succ]
  refine wpU_take (i := 4) (v := ?_) rfl (by kernel_rfl) (by kernel_rfl) (by kernel_rfl) (by kernel_rfl) (fun _ _ _ h => h) (by rfl) ?_ HS.out ?_
  rotate_left
  · (intro wS hwS; (try dsimp only at hwS); go_simp; try with_reducible rfl)
  simp only [Act.put, List.getElem_toArray, List.getElem_cons_zero, List.getElem_cons_succ, List.setIfInBounds_toArray, List.set_cons_zero, List.set_cons_succ]
  refine wpU_take (i := 5) (v := ?_) rfl (by kernel_rfl) (by kernel_rfl) (by kernel_rfl) (by kernel_rfl) (fun _ _ _ h => h) (by rfl) ?_ HS.out ?_
  rotate_left
  · (intro wS hwS; (try dsimp only at hwS); go_simp; try with_reducible rfl)
  simp only [Act.put, List.getElem_toArray, List.getElem_cons_zero, List.getElem_cons_succ, List.setIfInBounds_toArray, List.set_cons_zero, List.set_cons_succ]
  refine wpU_take (i := 6) (v := ?_) rfl (by kernel_rfl) (by kernel_rfl) (by kernel_rfl) (by kernel_rfl) (fun _ _ _ h => h) (by rfl) ?_ HS.out ?_
  rotate_left
  · (intro wS hwS; (try dsimp only at hwS); go_simp; try with_reducible rfl)
  simp only [Act.put, List.getElem_toArray, List.getElem_cons_zero, List.getElem_cons_succ, List.setIfInBounds_toArray, List.set_cons_zero, List.set_cons_succ]
  refine wpU_take (i := 7) (v := ?_) rfl (by kernel_rfl) (by kernel_rfl) (by kernel_rfl) (by kernel_rfl) (fun _ _ _ h => h) (by rfl) ?_ HS.out ?_
  rotate_left
  · (intro wS hwS; (try dsimp only at hwS); go_simp; try with_reducible rfl)
  simp only [Act.put, List.getElem_toArray, List.getElem_cons_zero, List.getElem_cons_succ, List.setIfInBounds_toArray, List.set_cons_zero, List.set_cons_succ]
  refine wpL_one (i := 8) (by kernel_rfl) rfl (fun K hK => ?_)
  simp only [List.getElem_toArray, List.getElem_cons_zero, List.getElem_cons_succ]
  go_simp
  refine hby.out.mono ?_
  rintro e w2 ⟨z, rfl, hs2⟩
  have hS3 := hS2.out w2 hs2
  replace hs2 : Hid (Stay (fun _ => False) w.drew w2) := hs2
  refine hK.out _ _ (fun _ => hS3) ?_
  clear hK K
  try simp only [Act.put, List.getElem_toArray, List.getElem_cons_zero, List.getElem_cons_succ, List.setIfInBounds_toArray, List.set_cons_zero, List.set_cons_succ]
  refine wpL_one (i := 9) (by kernel_rfl) rfl (fun K hK => ?_)
  simp only [List.getElem_toArray, List.getElem_cons_zero, List.getElem_cons_succ]
  go_simp
  refine hK.out _ _ (fun _ => hS3) ?_
  clear hK K
  try simp only [Act.put, List.getElem_toArray, List.getElem_cons_zero, List.getElem_cons_succ, List.setIfInBounds_toArray, List.set_cons_zero, List.set_cons_succ]
  refine wpL_one (i := 10) (by kernel_rfl) rfl (fun K hK => ?_)
  simp only [List.getElem_toArray, List.getElem_cons_zero, List.getElem_cons_succ]
  go_simp
  refine hK.out _ _ (fun h => absurd rfl h) ?_
  clear hK K
  refine wpL_done (by kernel_rfl) ?_ _
  go_wp2
  go_ret
  exact ⟨⟨_, rfl⟩, Stay.of_drew hs2.out⟩

/-- Two places of a list exchanged. -/
def swpL (l : List Nat) (i j : Nat) : List Nat := (l.set i l[j]!).set j l[i]!

theorem swpL_perm (l : List Nat) (i j : Nat) (hi : i < l.length) (hj : j < l.length) : (swpL l i j).Perm l := by
  unfold swpL
  rw [getElem!_pos l i hi, getElem!_pos l j hj]
  exact Go.Sort.perm_set_set l i j hi hj

theorem swpL_len (l : List Nat) (i j : Nat) : (swpL l i j).length = l.length := by simp [swpL]

theorem swpL_get (l : List Nat) (i j t : Nat) (ht : t < l.length) : (swpL l i j)[t]! = if j = t then l[i]! else if i = t then l[j]! else l[t]! := by
  rw [getElem!_pos (swpL l i j) t (by rw [swpL_len]; exact ht)]
  simp only [swpL, List.getElem_set]
  split
  · rfl
  · split
    · rfl
    · rw [getElem!_pos l t ht]

set_option maxRecDepth 100000 in
set_option maxHeartbeats 8000000 in
/-- flight.Swap. -/
theorem fswap_any {B g cap : Nat} {cur : Array Value} {l : List Nat} {w : World} (h : RowAt B g cap cur l w) {i j : Nat} (hi : i < l.length) (hj : j < l.length) (hn : l.length ≤ 900) :
    Calls Ybaf.prog 158 #[.slice (some ⟨g, 0, none⟩) l.length cap, .int .i64 i, .int .i64 j] w fun e w' => e = .returned (.tuple #[]) ∧ ∃ cur', RowAt B g cap cur' (swpL l i j) w' ∧ Stay (fun x => x = g) w w' := by
  obtain ⟨n, hnn⟩ : ∃ n, l.length = n := ⟨_, rfl⟩
  obtain ⟨p, hpp⟩ : ∃ p, l[i]! = p := ⟨_, rfl⟩
  obtain ⟨q, hqq⟩ : ∃ q, l[j]! = q := ⟨_, rfl⟩
  have ci := h.cell i hi
  have cj := h.cell j hj
  have zi := h.free i
  have zj := h.free j
  rw [hpp] at ci
  rw [hqq] at cj
  obtain ⟨v', hy'⟩ := cell?_setCell_some (w := w) (p := ⟨g, i, none⟩) (x := .pointer (some ⟨q, 0, none⟩)) (q := ⟨g, j, none⟩) cj
  have hfin : Hid (∃ cur', RowAt B g cap cur' (swpL l i j) (((w.setCell ⟨g, i, none⟩ (.pointer (some ⟨q, 0, none⟩))).setCell ⟨g, j, none⟩ (.pointer (some ⟨p, 0, none⟩))).drew) ∧ Stay (fun x => x = g) w (((w.setCell ⟨g, i, none⟩ (.pointer (some ⟨q, 0, none⟩))).setCell ⟨g, j, none⟩ (.pointer (some ⟨p, 0, none⟩))).drew)) := by
    have e1 := heap_setCell_same w g i cur 71 (.pointer (some ⟨q, 0, none⟩)) h.at_
    have e2 := heap_setCell_same _ g j _ 71 (.pointer (some ⟨p, 0, none⟩)) e1
    refine ⟨_, ⟨h.ge, e2, by rw [swpL_len]; exact h.le, h.max, by simp [h.size], fun t ht => ?_⟩, ((Stay.set (S := fun x => x = g) _ _ _ _ rfl).trans (Stay.set _ _ _ _ rfl)).drew⟩
    rw [swpL_len] at ht
    have hts : t < cur.size := by rw [h.size]; have := h.le; omega
    rw [swpL_get l i j t ht, hpp, hqq, Array.getElem?_setIfInBounds]
    by_cases a1 : j = t
    · subst a1
      simp [hts]
    · rw [if_neg a1, if_neg a1, Array.getElem?_setIfInBounds]
      by_cases a2 : i = t
      · subst a2
        simp [hts]
      · rw [if_neg a2, if_neg a2, h.get t ht]
  rw [hnn] at hi hj hn ⊢
  clear h hpp hqq hnn
  go_enter Ybaf.func158, Ybaf.ntmps158
  go_wp2
  go_region
  all_goals go_wp2
  go_end0
  exact ⟨rfl, hfin.out⟩

theorem flen_any (v : Value) (p : Option Addr) (n cap : Nat) (hv : v = .slice p n cap) (w : World) : Calls Ybaf.prog 156 #[v] w fun e w' => e = .returned (.int .i64 n) ∧ w' = w := by
  subst hv
  go_enter Ybaf.func156, Ybaf.ntmps156
  go_wp2
  go_ret
  exact ⟨rfl, rfl⟩
end Go.Proofs.YbulkcoecFmt
