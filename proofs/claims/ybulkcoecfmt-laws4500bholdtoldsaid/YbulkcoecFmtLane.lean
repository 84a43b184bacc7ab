import Derived.Test.YbulkcoecFmtMap
namespace Go.Proofs.YbulkcoecFmt
open Go.RowKit Go.Deep
set_option linter.unusedVariables false
set_option linter.unusedSimpArgs false

set_option maxHeartbeats 1000000 in
theorem newRef_any (p : Addr) (w : World) :
    Calls Ybaf.prog 35 #[.pointer (some p), .func (.func 36) #[] #[]] w fun e w' => e = .returned (.agg #[.pointer (some p), .func (.func 36) #[] #[], .nilFunc, .slice none 0 0, .bool false]) ∧ Stay (fun _ => False) w w' := by
  go_enter Ybaf.func35, Ybaf.ntmps35
  go_wp2
  exact bodyPost_ret (results_cell_row rfl _ _ w.heap.size 84 _ (0, 0) _ rfl (heap_alloc_new w _) Ybaf.underlying84 rfl (by kernel_rfl)) rfl ⟨rfl, Stay.alloc _ _ _⟩

structure LaneMade (bM r : Nat) (w : World) (bN : Nat) (w' : World) : Prop where
  lt : w.heap.size ≤ bN
  ln : w'.heap[bN]? = some (.cells (laneArr bM 0 (.slice none 0 0) false) 86 (0, 0))
  mp : ∃ b c, w'.heap[r]? = some (.map #[⟨.agg #[.int .i64 0, .int .i64 1], .pointer (some ⟨bN, 0, none⟩), b⟩] c)
  st : Stay (fun b => b = r) w w'

set_option maxRecDepth 100000 in
set_option maxHeartbeats 4000000 in
theorem lane_any (bM r : Nat) (vpr : Value) (w : World) (hm : w.heap[bM]? = some (.cells (memArr 0 vpr (.map (some r))) 66 (0, 0))) (hr : w.heap[r]? = some (.map #[] 0)) (hne : bM ≠ r) :
    Calls Ybaf.prog 15 #[.pointer (some ⟨bM, 0, none⟩), .agg #[.int .i64 0, .int .i64 1]] w fun e w' => ∃ bN, e = .returned (.pointer (some ⟨bN, 0, none⟩)) ∧ LaneMade bM r w bN w' := by
  obtain ⟨D, hD⟩ : ∃ D, w.heap.size = D := ⟨_, rfl⟩
  obtain ⟨W1, hW1⟩ : ∃ W, W = w.alloc (.cells #[.int .i64 0, .int .i64 1] 68) := ⟨_, rfl⟩
  have hs1 : Stay (fun _ => False) w W1 := by rw [hW1]; exact Stay.alloc _ _ _
  have hD1 : W1.heap[D]? = some (.cells #[.int .i64 0, .int .i64 1] 68 (0, 0)) := by rw [hW1, ← hD]; exact heap_alloc_new w _
  have hm1 := hs1.at_ hm (fun e => e)
  have hr1 := hs1.at_ hr (fun e => e)
  have c13 := cell_in hm1 (o := 13) (u := .map (some r)) rfl
  have d0 := cell_in hD1 (o := 0) (u := .int .i64 0) rfl
  have d1 := cell_in hD1 (o := 1) (u := .int .i64 1) rfl
  have hlk : ∀ n, (Instr.lookup 50 (.map (some r)) (.agg #[.int .i64 0, .int .i64 1]) true).run Ybaf.prog (W1.drewN n) = .ok (.tuple #[.pointer none, .bool false]) (W1.drewN n) := fun n => look_empty r 0 (W1.drewN n) hr1
  have hlk0 := hlk 0
  have hlk1 := hlk 1
  have HW1 : Hid (w.alloc (.cells #[.int .i64 0, .int .i64 1] 68) = W1 ∧ w.heap.size = D) := ⟨hW1.symm, hD⟩
  clear hW1 hD
  go_enter Ybaf.func15, Ybaf.ntmps15
  go_upto_region 1 with (fail)
  rw [HW1.out.1, HW1.out.2]
  go_quiet (fail)
  go_upto_region 3 with (fail)
  obtain ⟨W2, hW2⟩ : ∃ W, W = W1.drewN nq := ⟨_, rfl⟩
  have hs2 : Stay (fun _ => False) w W2 := by rw [hW2]; exact hs1.drewN nq
  have hD2 : W2.heap[D]? = some (.cells #[.int .i64 0, .int .i64 1] 68 (0, 0)) := by rw [hW2]; exact hD1
  have HN : Hid (Calls Ybaf.prog 35 #[.pointer (some ⟨bM, 4, none⟩), .func (.func 36) #[] #[]] W2 fun e w' => e = .returned (.agg #[.pointer (some ⟨bM, 4, none⟩), .func (.func 36) #[] #[], .nilFunc, .slice none 0 0, .bool false]) ∧ Stay (fun _ => False) W2 w') := newRef_any ⟨bM, 4, none⟩ W2
  rw [← hW2]
  have HX : Hid (Stay (fun _ => False) w W2 ∧ W2.heap[D]? = some (.cells #[.int .i64 0, .int .i64 1] 68 (0, 0)) ∧ w.heap[bM]? = some (.cells (memArr 0 vpr (.map (some r))) 66 (0, 0)) ∧ w.heap[r]? = some (.map #[] 0)) := ⟨hs2, hD2, hm, hr⟩
  clear hW2 hs2 hD2 hs1 hD1 hm1 hr1 c13 d0 d1 hlk hlk0 hlk1 hm hr
  go_upto_region 4 with (go_at_call 35; refine HN.out.mono ?_; rintro _ w3 ⟨rfl, hs3⟩; have HS3 : Hid (Stay (fun _ => False) W2 w3) := hs3; clear hs3)
  obtain ⟨bN, hbN⟩ : ∃ N, w3.heap.size = N := ⟨_, rfl⟩
  obtain ⟨W4, hW4⟩ : ∃ W, W = w3.alloc (.cells (laneArr bM 0 (.slice none 0 0) false) 86) := ⟨_, rfl⟩
  obtain ⟨x1, x2, x3, x4⟩ := HX.out
  have hs4 : Stay (fun _ => False) W2 W4 := by rw [hW4]; exact HS3.out.trans (Stay.alloc _ _ _)
  have hN4 : W4.heap[bN]? = some (.cells (laneArr bM 0 (.slice none 0 0) false) 86 (0, 0)) := by rw [hW4, ← hbN]; exact heap_alloc_new w3 _
  have hD4 := hs4.at_ x2 (fun e => e)
  have hm4 := hs4.at_ (x1.at_ x3 (fun e => e)) (fun e => e)
  have hr4 := hs4.at_ (x1.at_ x4 (fun e => e)) (fun e => e)
  have HSS : Hid ((fun w' : World => w'.cell? ⟨bM, 13, none⟩ = some (.map (some r)) ∧ w'.cell? ⟨D, 0, none⟩ = some (.int .i64 0) ∧ w'.cell? ⟨D, 1, none⟩ = some (.int .i64 1)) W4.drew) := ⟨cell_in hm4 (o := 13) rfl, cell_in hD4 (o := 0) rfl, cell_in hD4 (o := 1) rfl⟩
  obtain ⟨W5, hW5⟩ : ∃ W : World, W = { W4.drew with heap := W4.heap.setIfInBounds r (.map #[⟨.agg #[.int .i64 0, .int .i64 1], .pointer (some ⟨bN, 0, none⟩), 0⟩] (0 + 1)) } := ⟨_, rfl⟩
  have hup : (Instr.mapUpdate 50 (.map (some r)) (.agg #[.int .i64 0, .int .i64 1]) (.pointer (some ⟨bN, 0, none⟩))).run Ybaf.prog W4.drew = .ok () W5 := by rw [hW5]; exact upd_empty r 0 _ W4.drew hr4
  have HPO : Hid (w.heap.size ≤ bN ∧ W5.heap[bN]? = some (.cells (laneArr bM 0 (.slice none 0 0) false) 86 (0, 0)) ∧ W5.heap[r]? = some (.map #[⟨.agg #[.int .i64 0, .int .i64 1], .pointer (some ⟨bN, 0, none⟩), 0⟩] (0 + 1)) ∧ Stay (fun b => b = r) w W5) := by
    have hlr := lt_of hr4
    have hbr : bN ≠ r := fun e => by
      have h1 := lt_of (x1.at_ x4 (fun e => e)); have h2 := HS3.out.size; omega
    refine ⟨by have h1 := x1.size; have h2 := HS3.out.size; omega, ?_, ?_, ?_⟩
    · rw [hW5]
      show (W4.heap.setIfInBounds r _)[bN]? = _
      rw [Array.getElem?_setIfInBounds_ne (fun e => hbr e.symm)]
      exact hN4
    · rw [hW5]
      show (W4.heap.setIfInBounds r _)[r]? = _
      rw [Array.getElem?_setIfInBounds_self_of_lt hlr]
    · have hs5 : Stay (fun b => b = r) W4 W5 := by
        rw [hW5]
        exact ⟨rfl, rfl, rfl, by show W4.heap.size ≤ (W4.heap.setIfInBounds r _).size; simp, fun b _ hb => by show (W4.heap.setIfInBounds r _)[b]? = _; rw [Array.getElem?_setIfInBounds_ne (fun e => hb e.symm)]⟩
      exact (x1.mono (fun _ _ e => e.elim)).trans ((hs4.mono (fun _ _ e => e.elim)).trans hs5)
  rw [show (w3.alloc (.cells #[.bool false, .int .u64 0, .int .u64 0, .int .i64 0, .int .u64 0, .pointer (some ⟨bM, 4, none⟩), .func (.func 36) #[] #[], .nilFunc, .slice none 0 0, .bool false] 86)) = W4 from hW4.symm, hbN]
  clear hbN hW4 x1 x2 x3 x4 hs4 hN4 hD4 hm4 hr4 hW5 HX HN HS3
  refine wp_region_L (fun w' => w'.cell? ⟨bM, 13, none⟩ = some (.map (some r)) ∧ w'.cell? ⟨D, 0, none⟩ = some (.int .i64 0) ∧ w'.cell? ⟨D, 1, none⟩ = some (.int .i64 1)) 6 7 (by kernel_rfl) (by kernel_rfl) ?_
  refine wpU_take (i := 0) (v := ?_) rfl (by kernel_rfl) (by kernel_rfl) (by kernel_rfl) (by kernel_rfl) (fun _ _ _ h => h) (by rfl) ?_ HSS.out ?_
  rotate_left
  · (intro wS hwS; (try dsimp only at hwS); go_simp; try with_reducible rfl)
  simp only [Act.put, List.getElem_toArray, List.getElem_cons_zero, List.getElem_cons_succ, List.setIfInBounds_toArray, List.set_cons_zero, List.set_cons_succ]
  refine wpU_take (i := 1) (v := ?_) rfl (by kernel_rfl) (by kernel_rfl) (by kernel_rfl) (by kernel_rfl) (fun _ _ _ h => h) (by rfl) ?_ HSS.out ?_
  rotate_left
  · (intro wS hwS; (try dsimp only at hwS); go_simp; try with_reducible rfl)
  simp only [Act.put, List.getElem_toArray, List.getElem_cons_zero, List.getElem_cons_succ, List.setIfInBounds_toArray, List.set_cons_zero, List.set_cons_succ]
  refine wpU_take (i := 2) (v := ?_) rfl (by kernel_rfl) (by kernel_rfl) (by kernel_rfl) (by kernel_rfl) (fun _ _ _ h => h) (by rfl) ?_ HSS.out ?_
  rotate_left
  · (intro wS hwS; (try dsimp only at hwS); go_simp; try with_reducible rfl)
  simp only [Act.put, List.getElem_toArray, List.getElem_cons_zero, List.getElem_cons_succ, List.setIfInBounds_toArray, List.set_cons_zero, List.set_cons_succ]
  refine wpU_take (i := 3) (v := ?_) rfl (by kernel_rfl) (by kernel_rfl) (by kernel_rfl) (by kernel_rfl) (fun _ _ _ h => h) (by rfl) ?_ HSS.out ?_
  rotate_left
  · (intro wS hwS; (try dsimp only at hwS); go_simp; try with_reducible rfl)
  simp only [Act.put, List.getElem_toArray, List.getElem_cons_zero, List.getElem_cons_succ, List.setIfInBounds_toArray, List.set_cons_zero, List.set_cons_succ]
  refine wpU_take (i := 4) (v := ?_) rfl (by kernel_rfl) (by kernel_rfl) (by kernel_rfl) (by kernel_rfl) (fun _ _ _ h => h) (by rfl) ?_ HSS.out ?_
  rotate_left
  · (intro wS hwS; (try dsimp only at hwS); go_simp; try with_reducible rfl)
  simp only [Act.put, List.getElem_toArray, List.getElem_cons_zero, List.getElem_cons_succ, List.setIfInBounds_toArray, List.set_cons_zero, List.set_cons_succ]
  refine wpU_take (i := 5) (v := ?_) rfl (by kernel_rfl) (by kernel_rfl) (by kernel_rfl) (by kernel_rfl) (fun _ _ _ h => h) (by rfl) ?_ HSS.out ?_
  rotate_left
  · (intro wS hwS; (try dsimp only at hwS); go_simp; try with_reducible rfl)
  simp only [Act.put, List.getElem_toArray, List.getElem_cons_zero, List.getElem_cons_succ, List.setIfInBounds_toArray, List.set_cons_zero, List.set_cons_succ]
  refine wpL_one (i := 6) (by kernel_rfl) rfl (fun K hK => ?_)
  simp only [List.getElem_toArray, List.getElem_cons_zero, List.getElem_cons_succ]
  go_simp
  refine hK.out _ _ (fun h => absurd rfl h) ?_
  clear hK K
  refine wpL_done (by kernel_rfl) ?_ _
  go_wp2
  go_ret
  obtain ⟨p1, p2, p3, p4⟩ := HPO.out
  exact ⟨bN, rfl, p1, p2, ⟨_, _, p3⟩, p4⟩
end Go.Proofs.YbulkcoecFmt
