import Derived.Test.YbulkcoecFmtHState
namespace Go.Proofs.YbulkcoecFmt
open Go.RowKit Go.Deep
set_option linter.unusedVariables false
set_option linter.unusedSimpArgs false

theorem load64 (a : Addr) (v : Value) (w : World) (h : w.cell? a = some v) : (loadVar 64 a).run Ybaf.prog w = .ok v w := by
  simp [loadVar, Ybaf.isAgg64, h]
theorem mLen : ((Ybaf.prog.info? 198).bind fun i => i.methods.find? (·.name == "Len")).map (fun m => (m.path.toList, m.func)) = some ([], some (156, false)) := by kernel_rfl
theorem mLess : ((Ybaf.prog.info? 198).bind fun i => i.methods.find? (·.name == "Less")).map (fun m => (m.path.toList, m.func)) = some ([], some (157, false)) := by kernel_rfl
theorem mSwap : ((Ybaf.prog.info? 198).bind fun i => i.methods.find? (·.name == "Swap")).map (fun m => (m.path.toList, m.func)) = some ([], some (158, false)) := by kernel_rfl
theorem wrap_any (a : Addr) (n : String) (w : World) : (Builtin.ssaWrapNilChk_ #[198] 198 #[.pointer (some a), strVal "", strVal n]).run Ybaf.prog w = .ok (.pointer (some a)) w := by
  rfl
theorem recv_any (a : Addr) (v : Value) (n : String) (w : World) (h : w.cell? a = some v) : (receiverAt 198 (.val (.pointer (some a))) false (some n)).run Ybaf.prog w = .ok v w := by
  unfold receiverAt
  simp only [Sem.run_bind, run_underlying Ybaf.underlying198, Result.andThen_ok, Place.get, Sem.run_pure, wrap_any, asAddr, load64 a v w h]
theorem method_any (name : String) (f : Nat) (a : Addr) (v : Value) (w : World) (hm : ((Ybaf.prog.info? 198).bind fun i => i.methods.find? (·.name == name)).map (fun m => (m.path.toList, m.func)) = some ([], some (f, false)))
    (h : w.cell? a = some v) : (Go.method 348 198 (.pointer (some a)) name).run Ybaf.prog w = .ok (f, v) w := by
  cases hi : Ybaf.prog.info? 198 with
  | none => rw [hi] at hm; cases hm
  | some ti =>
    rw [hi] at hm
    simp only [Option.bind_some] at hm
    cases hf : ti.methods.find? (·.name == name) with
    | none => rw [hf] at hm; cases hm
    | some m =>
      rw [hf] at hm
      simp only [Option.map_some, Option.some.injEq, Prod.mk.injEq] at hm
      have h1 : m.path.toList = [] := hm.1
      have h2 : m.path.isEmpty = true := by
        have : m.path = #[] := by rw [← Array.toList_inj] ; simpa using h1
        rw [this]; rfl
      have h3 : m.func = some (f, false) := hm.2
      unfold Go.method
      simp only [Sem.run_bind, typeInfo, run_program, hi, hf, Sem.run_pure, Result.andThen_ok, h1, follow, h3, h2, if_true, recv_any a v _ w h]


section
variable {P : Program} {ops : Array Oper} {Q : Exit → Act → World → Prop} {md : Region.Mode} {S : World → Prop} {L : Nat}
/-- One of two operations may come up. -/
theorem wpL_two {i j : Nat} {oi oj : Oper} {fuel : Nat} {listed : Array Bool} {a : Act} {w : World} (hr : Region.ready md ops listed = [i, j]) (hoi : ops[i]? = some oi) (hoj : ops[j]? = some oj)
    (h1 : ∀ K' : Act → World → Prop, RowKit.Hid (∀ a w, (i ≠ L → S w) → wpL P md ops Q S L fuel (listed.setIfInBounds i true) a w → K' a w) → if Region.wanted oi (yielded ops a.tmps) = true then Oper.wp P oi a w K' Q else K' (a.put oi.dst undef) w)
    (h2 : ∀ K' : Act → World → Prop, RowKit.Hid (∀ a w, (j ≠ L → S w) → wpL P md ops Q S L fuel (listed.setIfInBounds j true) a w → K' a w) → if Region.wanted oj (yielded ops a.tmps) = true then Oper.wp P oj a w K' Q else K' (a.put oj.dst undef) w) :
    wpL P md ops Q S L (fuel + 1) listed a w :=
  ⟨fun h0 => (by rw [hr] at h0; cases h0), fun k hk => by
    rw [hr] at hk
    rcases List.mem_cons.1 hk with rfl | hk
    · exact wpOp_step hoi (fun K' hK => h1 K' (fun a w h1 h2 => hK a w ⟨h1, h2⟩))
    · obtain rfl := List.mem_singleton.1 hk
      exact wpOp_step hoj (fun K' hK => h2 K' (fun a w h1 h2 => hK a w ⟨h1, h2⟩))⟩
end

set_option maxRecDepth 100000 in
set_option maxHeartbeats 4000000 in
/-- cmp.Or of two numbers. -/
theorem or_any (g : Nat) (x y : Int) (w : World) (c0 : w.cell? ⟨g, 0, none⟩ = some (.int .i64 x)) (c1 : w.cell? ⟨g, 1, none⟩ = some (.int .i64 y)) :
    Calls Ybaf.prog 160 #[.slice (some ⟨g, 0, none⟩) 2 2] w fun e w' => ∃ z : Int, e = .returned (.int .i64 z) ∧ w' = w := by
  go_enter Ybaf.func160, Ybaf.ntmps160
  go_wp2
  go_loopw [8] (fun va wr => (va = .int .i64 0 ∨ va = .int .i64 1 ∨ va = .int .i64 2) ∧ wr = w) (fun va _ => 2 - (intOf va).toNat)
  case atStart => exact ⟨.inl rfl, rfl⟩
  case round =>
    obtain ⟨h, hw⟩ := hrel
    subst hw
    rcases h with rfl | rfl | rfl
    · by_cases hx : x = 0
      · subst hx
        go_wp2_with fail
        go_roundw
        case rel => exact ⟨.inr (.inl (by go_num)), (by first | exact trivial | rfl)⟩
        case measure => simp [intOf]
      · have hxb : (x == 0) = false := by simp; exact hx
        go_wp2_with fail
        go_ret
        exact ⟨_, rfl, rfl⟩
    · by_cases hx : y = 0
      · subst hx
        go_wp2_with fail
        go_roundw
        case rel => exact ⟨.inr (.inr (by go_num)), (by first | exact trivial | rfl)⟩
        case measure => simp [intOf]
      · have hxb : (y == 0) = false := by simp; exact hx
        go_wp2_with fail
        go_ret
        exact ⟨_, rfl, rfl⟩
    · go_wp2_with fail
      go_ret
      exact ⟨_, rfl, rfl⟩

/-- A copy, as far as the heap reads it. -/
def Pok (w : World) (b : Nat) : Prop := ∃ (arr : Array Value) (x y : Int), w.heap[b]? = some (.cells arr 75 (0, 0)) ∧ arr[0]? = some (.int .u64 x) ∧ arr[7]? = some (.int .u64 y)

set_option maxRecDepth 100000 in
set_option maxHeartbeats 8000000 in
/-- byDue. -/
theorem byDue_any (p q : Nat) (w : World) (hp : Pok w p) (hq : Pok w q) :
    Calls Ybaf.prog 159 #[ptr p, ptr q] w fun e w' => ∃ z : Int, e = .returned (.int .i64 z) ∧ Stay (fun _ => False) w w' := by
  obtain ⟨a1, x1, y1, h1, e1, f1⟩ := hp
  obtain ⟨a2, x2, y2, h2, e2, f2⟩ := hq
  obtain ⟨k1, hk1⟩ : ∃ k, k = cmpI y1 y2 := ⟨_, rfl⟩
  obtain ⟨k2, hk2⟩ : ∃ k, k = cmpI x1 x2 := ⟨_, rfl⟩
  have HS : Hid ((fun w' : World => w'.cell? ⟨p, 7, none⟩ = some (.int .u64 y1) ∧ w'.cell? ⟨q, 7, none⟩ = some (.int .u64 y2) ∧ w'.cell? ⟨p, 0, none⟩ = some (.int .u64 x1) ∧ w'.cell? ⟨q, 0, none⟩ = some (.int .u64 x2)) w.drew) := ⟨cell_in h1 f1, cell_in h2 f2, cell_in h1 e1, cell_in h2 e2⟩
  have hcA : Hid (∀ W, Calls Ybaf.prog 129 #[.int .u64 y1, .int .u64 y2] W fun e w' => e = .returned (.int .i64 k1) ∧ w' = W) := by rw [hk1]; exact fun W => cmp_any y1 y2 W
  have hcB : Hid (∀ W, Calls Ybaf.prog 129 #[.int .u64 x1, .int .u64 x2] W fun e w' => e = .returned (.int .i64 k2) ∧ w' = W) := by rw [hk2]; exact fun W => cmp_any x1 x2 W
  obtain ⟨D, hD⟩ : ∃ D, w.heap.size = D := ⟨_, rfl⟩
  obtain ⟨W2, hW2⟩ : ∃ W, W = (w.alloc (.cells #[.int .i64 k1, .int .i64 k2] 3)).drew := ⟨_, rfl⟩
  have hD2 : W2.heap[D]? = some (.cells #[.int .i64 k1, .int .i64 k2] 3 (0, 0)) := by rw [hW2, ← hD]; exact heap_alloc_new w _
  have hst : Stay (fun _ => False) w W2 := by rw [hW2]; exact (Stay.alloc _ _ _).drew
  have hor : Hid (Calls Ybaf.prog 160 #[.slice (some ⟨D, 0, none⟩) 2 2] W2 fun e w' => ∃ z : Int, e = .returned (.int .i64 z) ∧ w' = W2) := or_any D k1 k2 W2 (cell_in hD2 rfl) (cell_in hD2 rfl)
  have HS2 : Hid ((fun w' : World => w'.cell? ⟨p, 7, none⟩ = some (.int .u64 y1) ∧ w'.cell? ⟨q, 7, none⟩ = some (.int .u64 y2) ∧ w'.cell? ⟨p, 0, none⟩ = some (.int .u64 x1) ∧ w'.cell? ⟨q, 0, none⟩ = some (.int .u64 x2)) W2) := by
    have g1 := hst.at_ h1 (fun e => e)
    have g2 := hst.at_ h2 (fun e => e)
    exact ⟨cell_in g1 f1, cell_in g2 f2, cell_in g1 e1, cell_in g2 e2⟩
  have HW : Hid ((w.alloc (.cells #[.int .i64 k1, .int .i64 k2] 3)).drew = W2 ∧ w.heap.size = D) := ⟨hW2.symm, hD⟩
  replace hst : Hid (Stay (fun _ => False) w W2) := hst
  clear hW2 hD hD2 h1 h2 e1 e2 f1 f2 hk1 hk2 a1 a2
  go_enter Ybaf.func159, Ybaf.ntmps159
  go_upto_region 1 with (fail)
  refine wp_region_L (fun w' : World => w'.cell? ⟨p, 7, none⟩ = some (.int .u64 y1) ∧ w'.cell? ⟨q, 7, none⟩ = some (.int .u64 y2) ∧ w'.cell? ⟨p, 0, none⟩ = some (.int .u64 x1) ∧ w'.cell? ⟨q, 0, none⟩ = some (.int .u64 x2)) 22 23 (by kernel_rfl) (by kernel_rfl) ?_
  refine wpU_take (i := 0) (v := ?_) rfl (by kernel_rfl) (by kernel_rfl) (by kernel_rfl) (by kernel_rfl) (fun _ _ _ h => h) (by rfl) ?_ HS.out ?_
  rotate_left
  · (intro wS hwS; (try dsimp only at hwS); go_simp; try with_reducible rfl)
  simp only [Act.put, List.getElem_toArray, List.getElem_cons_zero, List.getElem_cons_succ, List.setIfInBounds_toArray, List.set_cons_zero, List.set_cons_succ]
  refine wpU_take (i := 1) (v := ?_) rfl (by kernel_rfl) (by kernel_rfl) (by kernel_rfl) (by kernel_rfl) (fun _ _ _ h => h) (by rfl) ?_ HS.out ?_
  rotate_left
  · (intro wS hwS; (try dsimp only at hwS); go_simp; try with_reducible rfl)
  simp only [Act.put, List.getElem_toArray, List.getElem_cons_zero, List.getElem_cons_succ, List.setIfInBounds_toArray, List.set_cons_zero, List.set_cons_succ]
  refine wpU_take (i := 2) (v := ?_) rfl (by kernel_rfl) (by kernel_rfl) (by kernel_rfl) (by kernel_rfl) (fun _ _ _ h => h) (by rfl) ?_ HS.out ?_
  rotate_left
  · (intro wS hwS; (try dsimp only at hwS); go_simp; try with_reducible rfl)
  simp only [Act.put, List.getElem_toArray, List.getElem_cons_zero, List.getElem_cons_succ, List.setIfInBounds_toArray, List.set_cons_zero, List.set_cons_succ]
  refine wpU_take (i := 3) (v := ?_) rfl (by kernel_rfl) (by kernel_rfl) (by kernel_rfl) (by kernel_rfl) (fun _ _ _ h => h) (by rfl) ?_ HS.out ?_
  rotate_left
  · (intro wS hwS; (try dsimp only at hwS); go_simp; try with_reducible rfl)
  simp only [Act.put, List.getElem_toArray, List.getElem_cons_zero, List.getElem_cons_succ, List.setIfInBounds_toArray, List.set_cons_zero, List.set_cons_succ]
  refine wpU_take (i := 4) (v := ?_) rfl (by kernel_rfl) (by kernel_rfl) (by kernel_rfl) (by kernel_rfl) (fun _ _ _ h => h) (by rfl) ?_ HS.out ?_
  rotate_left
  · (intro wS hwS; (try dsimp only at hwS); go_simp; try with_reducible rfl)
  simp only [Act.put, List.getElem_toArray, List.getElem_cons_zero, List.getElem_cons_succ, List.setIfInBounds_toArray, List.set_cons_zero, List.set_cons_succ]
  refine wpU_take (i := 5) (v := ?_) rfl (by kernel_rfl) (by kernel_rfl) (by kernel_rfl) (by kernel_rfl) (fun _ _ _ h => h) (by rfl) ?_ HS.out ?_
  rotate_left
  · (intro wS hwS; (try dsimp only at hwS); go_simp; try with_reducible rfl)
  simp only [Act.put, List.getElem_toArray, List.getElem_cons_zero, List.getElem_cons_succ, List.setIfInBounds_toArray, List.set_cons_zero, List.set_cons_succ]
  refine wpU_take (i := 6) (v := ?_) rfl (by kernel_rfl) (by kernel_rfl) (by kernel_rfl) (by kernel_rfl) (fun _ _ _ h => h) (by rfl) ?_ HS.out ?_
  rotate_left
  · (intro wS hwS; (try dsimp only at hwS); go_simp; try with_reducible rfl)
  simp only [Act.put, List.getElem_toArray, List.getElem_cons_zero, List.getElem_cons_succ, List.setIfInBounds_toArray, List.set_cons_zero, List.set_cons_succ]
  refine wpU_take (i := 7) (v := ?_) rfl (by kernel_rfl) (by kernel_rfl) (by kernel_rfl) (by kernel_rfl) (fun _ _ _ h => h) (by rfl) ?_ HS.out ?_
  rotate_left
  · (intro wS hwS; (try dsimp only at hwS); go_simp; try with_reducible rfl)
  simp only [Act.put, List.getElem_toArray, List.getElem_cons_zero, List.getElem_cons_succ, List.setIfInBounds_toArray, List.set_cons_zero, List.set_cons_succ]
  refine wpU_take (i := 9) (v := ?_) rfl (by kernel_rfl) (by kernel_rfl) (by kernel_rfl) (by kernel_rfl) (fun _ _ _ h => h) (by rfl) ?_ HS.out ?_
  rotate_left
  · (intro wS hwS; (try dsimp only at hwS); go_simp; try with_reducible rfl)
  simp only [Act.put, List.getElem_toArray, List.getElem_cons_zero, List.getElem_cons_succ, List.setIfInBounds_toArray, List.set_cons_zero, List.set_cons_succ]
  refine wpU_take (i := 10) (v := ?_) rfl (by kernel_rfl) (by kernel_rfl) (by kernel_rfl) (by kernel_rfl) (fun _ _ _ h => h) (by rfl) ?_ HS.out ?_
  rotate_left
  · (intro wS hwS; (try dsimp only at hwS); go_simp; try with_reducible rfl)
  simp only [Act.put, List.getElem_toArray, List.getElem_cons_zero, List.getElem_cons_succ, List.setIfInBounds_toArray, List.set_cons_zero, List.set_cons_succ]
  refine wpU_take (i := 11) (v := ?_) rfl (by kernel_rfl) (by kernel_rfl) (by kernel_rfl) (by kernel_rfl) (fun _ _ _ h => h) (by rfl) ?_ HS.out ?_
  rotate_left
  · (intro wS hwS; (try dsimp only at hwS); go_simp; try with_reducible rfl)
  simp only [Act.put, List.getElem_toArray, List.getElem_cons_zero, List.getElem_cons_succ, List.setIfInBounds_toArray, List.set_cons_zero, List.set_cons_succ]
  refine wpU_take (i := 12) (v := ?_) rfl (by kernel_rfl) (by kernel_rfl) (by kernel_rfl) (by kernel_rfl) (fun _ _ _ h => h) (by rfl) ?_ HS.out ?_
  rotate_left
  · (intro wS hwS; (try dsimp only at hwS); go_simp; try with_reducible rfl)
  simp only [Act.put, List.getElem_toArray, List.getElem_cons_zero, List.getElem_cons_succ, List.setIfInBounds_toArray, List.set_cons_zero, List.set_cons_succ]
  refine wpU_take (i := 13) (v := ?_) rfl (by kernel_rfl) (by kernel_rfl) (by kernel_rfl) (by kernel_rfl) (fun _ _ _ h => h) (by rfl) ?_ HS.out ?_
  rotate_left
  · (intro wS hwS; (try dsimp only at hwS); go_simp; try with_reducible rfl)
  simp only [Act.put, List.getElem_toArray, List.getElem_cons_zero, List.getElem_cons_succ, List.setIfInBounds_toArray, List.set_cons_zero, List.set_cons_succ]
  refine wpU_take (i := 14) (v := ?_) rfl (by kernel_rfl) (by kernel_rfl) (by kernel_rfl) (by kernel_rfl) (fun _ _ _ h => h) (by rfl) ?_ HS.out ?_
  rotate_left
  · (intro wS hwS; (try dsimp only at hwS); go_simp; try with_reducible rfl)
  simp only [Act.put, List.getElem_toArray, List.getElem_cons_zero, List.getElem_cons_succ, List.setIfInBounds_toArray, List.set_cons_zero, List.set_cons_succ]
  refine wpU_take (i := 15) (v := ?_) rfl (by kernel_rfl) (by kernel_rfl) (by kernel_rfl) (by kernel_rfl) (fun _ _ _ h => h) (by rfl) ?_ HS.out ?_
  rotate_left
  · (intro wS hwS; (try dsimp only at hwS); go_simp; try with_reducible rfl)
  simp only [Act.put, List.getElem_toArray, List.getElem_cons_zero, List.getElem_cons_succ, List.setIfInBounds_toArray, List.set_cons_zero, List.set_cons_succ]
  refine wpU_take (i := 16) (v := ?_) rfl (by kernel_rfl) (by kernel_rfl) (by kernel_rfl) (by kernel_rfl) (fun _ _ _ h => h) (by rfl) ?_ HS.out ?_
  rotate_left
  · (intro wS hwS; (try dsimp only at hwS); go_simp; try with_reducible rfl)
  simp only [Act.put, List.getElem_toArray, List.getElem_cons_zero, List.getElem_cons_succ, List.setIfInBounds_toArray, List.set_cons_zero, List.set_cons_succ]
  refine wpU_take (i := 17) (v := ?_) rfl (by kernel_rfl) (by kernel_rfl) (by kernel_rfl) (by kernel_rfl) (fun _ _ _ h => h) (by rfl) ?_ HS.out ?_
  rotate_left
  · (intro wS hwS; (try dsimp only at hwS); go_simp; try with_reducible rfl)
  simp only [Act.put, List.getElem_toArray, List.getElem_cons_zero, List.getElem_cons_succ, List.setIfInBounds_toArray, List.set_cons_zero, List.set_cons_succ]
  refine wpU_take (i := 18) (v := ?_) rfl (by kernel_rfl) (by kernel_rfl) (by kernel_rfl) (by kernel_rfl) (fun _ _ _ h => h) (by rfl) ?_ HS.out ?_
  rotate_left
  · (intro wS hwS; (try dsimp only at hwS); go_simp; try with_reducible rfl)
  simp only [Act.put, List.getElem_toArray, List.getElem_cons_zero, List.getElem_cons_succ, List.setIfInBounds_toArray, List.set_cons_zero, List.set_cons_succ]
  refine wpL_one (i := 8) (by kernel_rfl) rfl (fun K hK => ?_)
  simp only [List.getElem_toArray, List.getElem_cons_zero, List.getElem_cons_succ]
  go_simp
  refine (hcA.out _).mono ?_
  rintro e wz ⟨rfl, hwz⟩
  rw [hwz]
  clear hwz
  refine hK.out _ _ (fun _ => HS.out) ?_
  clear hK K
  try simp only [Act.put, List.getElem_toArray, List.getElem_cons_zero, List.getElem_cons_succ, List.setIfInBounds_toArray, List.set_cons_zero, List.set_cons_succ]
  refine wpL_one (i := 19) (by kernel_rfl) rfl (fun K hK => ?_)
  simp only [List.getElem_toArray, List.getElem_cons_zero, List.getElem_cons_succ]
  go_simp
  refine (hcB.out _).mono ?_
  rintro e wz ⟨rfl, hwz⟩
  rw [hwz]
  clear hwz
  refine hK.out _ _ (fun _ => HS.out) ?_
  clear hK K
  try simp only [Act.put, List.getElem_toArray, List.getElem_cons_zero, List.getElem_cons_succ, List.setIfInBounds_toArray, List.set_cons_zero, List.set_cons_succ]
  refine wpL_one (i := 20) (by kernel_rfl) rfl (fun K hK => ?_)
  simp only [List.getElem_toArray, List.getElem_cons_zero, List.getElem_cons_succ]
  go_simp
  rw [HW.out.1, HW.out.2]
  refine hK.out _ _ (fun _ => HS2.out) ?_
  clear hK K
  try simp only [Act.put, List.getElem_toArray, List.getElem_cons_zero, List.getElem_cons_succ, List.setIfInBounds_toArray, List.set_cons_zero, List.set_cons_succ]
  refine wpL_one (i := 21) (by kernel_rfl) rfl (fun K hK => ?_)
  simp only [List.getElem_toArray, List.getElem_cons_zero, List.getElem_cons_succ]
  go_simp
  refine (hor.out).mono ?_
  rintro e wz ⟨z, rfl, hwz⟩
  rw [hwz]
  clear hwz
  refine hK.out _ _ (fun _ => HS2.out) ?_
  clear hK K
  try simp only [Act.put, List.getElem_toArray, List.getElem_cons_zero, List.getElem_cons_succ, List.setIfInBounds_toArray, List.set_cons_zero, List.set_cons_succ]
  refine wpL_one (i := 22) (by kernel_rfl) rfl (fun K hK => ?_)
  simp only [List.getElem_toArray, List.getElem_cons_zero, List.getElem_cons_succ]
  go_simp
  refine hK.out _ _ (fun h => absurd rfl h) ?_
  clear hK K
  refine wpL_done (by kernel_rfl) ?_ _
  go_wp2
  go_ret
  exact ⟨⟨z, rfl⟩, hst.out⟩
end Go.Proofs.YbulkcoecFmt
