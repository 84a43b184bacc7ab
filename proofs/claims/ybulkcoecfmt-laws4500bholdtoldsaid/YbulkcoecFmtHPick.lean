import Derived.Test.YbulkcoecFmtHState
import Derived.Laws.StructEq
namespace Go.Proofs.YbulkcoecFmt
open Go.RowKit Go.Deep
set_option linter.unusedVariables false
set_option linter.unusedSimpArgs false

section
variable {P : Program} {ops : Array Oper} {Q : Exit → Act → World → Prop} {md : Region.Mode} {S : World → Prop} {L : Nat}
/-- Take number i first, which is not wanted. -/
theorem wpU_skip {i : Nat} {oi : Oper} {fuel : Nat} {listed : Array Bool} {a : Act} {w : World} (hi : ops[i]? = some oi)
    (hs : Region.noSelect ops = true) (hf : Region.free md ops listed i = true) (hr : (Region.ready md ops listed).contains i = true) (hw : upsOk md ops listed L i = true)
    (hQ : ∀ c a w, Q (.panic c) (a.put oi.dst undef) w → Q (.panic c) a w) (hwant : Region.wanted oi (yielded ops a.tmps) = false) (hS : S w)
    (h : wpL P md ops Q S L fuel (listed.setIfInBounds i true) (a.put oi.dst undef) w) : wpL P md ops Q S L (fuel + 1) listed a w := by
  simp only [upsOk, Bool.and_eq_true, List.all_eq_true, Bool.or_eq_true, beq_iff_eq] at hw
  obtain ⟨⟨h1, h2⟩, h3⟩ := hw
  refine wpU_first (U := ups md ops i) hi (Region.noSelect_spec hs) hQ (by simpa using h1) (fun j hj hji o ho => ?_) fuel listed a w h2 (Region.free_spec hi hf) (by simpa using hr) (.inr ⟨hwant, rfl⟩) hS h
  have h4 := (h3 j hj).resolve_left hji
  rw [ho] at h4
  obtain ⟨e, he, hb⟩ := Array.any_eq_true'.1 h4
  simp only [Bool.and_eq_true] at hb
  exact ⟨e, he, hb.1, by simpa using hb.2⟩
end

set_option maxRecDepth 100000 in
set_option maxHeartbeats 4000000 in
/-- Which copies are picked. -/
theorem pick_any (b bl ba : Nat) (x y : Int) (own : Bool) (w : World) (c0 : w.cell? ⟨b, 0, none⟩ = some (.int .u64 x)) (c4 : w.cell? ⟨b, 4, none⟩ = some (.int .i64 0)) (c5 : w.cell? ⟨b, 5, none⟩ = some (.int .i64 (lk own)))
    (d0 : w.cell? ⟨bl, 0, none⟩ = some (.int .i64 0)) (d1 : w.cell? ⟨bl, 1, none⟩ = some (.int .i64 1)) (e0 : w.cell? ⟨ba, 0, none⟩ = some (.int .u64 y)) :
    Calls Ybaf.prog 99 #[ptr b, ptr bl, ptr ba] w fun e w' => e = .returned (.bool (own && decide (y < x))) ∧ w' = w.drew := by
  have hgt : Ybaf.prog.eqGuardType Ybaf.prog.depth 68 = false := by kernel_rfl
  cases own with
  | true =>
    have HS : Hid ((fun w' : World => w'.cell? ⟨b, 0, none⟩ = some (.int .u64 x) ∧ w'.cell? ⟨b, 4, none⟩ = some (.int .i64 0) ∧ w'.cell? ⟨b, 5, none⟩ = some (.int .i64 1) ∧ w'.cell? ⟨bl, 0, none⟩ = some (.int .i64 0) ∧ w'.cell? ⟨bl, 1, none⟩ = some (.int .i64 1) ∧ w'.cell? ⟨ba, 0, none⟩ = some (.int .u64 y)) w.drew) := ⟨c0, c4, c5, d0, d1, e0⟩
    clear c0 c4 c5 d0 d1 e0
    go_enter Ybaf.func99, Ybaf.ntmps99
    go_upto_region 1 with (fail)
    refine wp_region_L (fun w' : World => w'.cell? ⟨b, 0, none⟩ = some (.int .u64 x) ∧ w'.cell? ⟨b, 4, none⟩ = some (.int .i64 0) ∧ w'.cell? ⟨b, 5, none⟩ = some (.int .i64 1) ∧ w'.cell? ⟨bl, 0, none⟩ = some (.int .i64 0) ∧ w'.cell? ⟨bl, 1, none⟩ = some (.int .i64 1) ∧ w'.cell? ⟨ba, 0, none⟩ = some (.int .u64 y)) 15 16 (by kernel_rfl) (by kernel_rfl) ?_
    refine wpU_take (i := 0) (v := ?_) rfl (by kernel_rfl) (by kernel_rfl) (by kernel_rfl) (by kernel_rfl) (fun _ _ _ h => h) (by rfl) ?_ HS.out ?_
    rotate_left
    · (intro wS hwS; (try dsimp only at hwS); go_simp; try with_reducible rfl)
    simp only [Act.put, List.getElem_toArray, List.getElem_cons_zero, List.getElem_cons_succ, List.setIfInBounds_toArray, List.set_cons_zero, List.set_cons_succ]
    refine wpU_take (i := 1) (v := ?_) rfl (by kernel_rfl) (by kernel_rfl) (by kernel_rfl) (by kernel_rfl) (fun _ _ _ h => h) (by rfl) ?_ HS.out ?_
    rotate_left
    · (intro wS hwS; (try dsimp only at hwS); go_simp; try with_reducible rfl)
    simp only [Act.put, List.getElem_toArray, List.getElem_cons_zero, List.getElem_cons_succ, List.setIfInBounds_toArray, List.set_cons_zero, List.set_cons_succ]
    refine wpU_take (i := 2) (v := ?_) rfl (by kernel_rfl) (by kernel_rfl) (by kernel_rfl) (by kernel_rfl) (fun _ _ _ h => h) (by rfl) ?_ HS.out ?_
    rotate_left
    · (intro wS hwS; (try dsimp only at hwS); go_simp; try with_reducible rfl)
    simp only [Act.put, List.getElem_toArray, List.getElem_cons_zero, List.getElem_cons_succ, List.setIfInBounds_toArray, List.set_cons_zero, List.set_cons_succ]
    refine wpU_take (i := 3) (v := ?_) rfl (by kernel_rfl) (by kernel_rfl) (by kernel_rfl) (by kernel_rfl) (fun _ _ _ h => h) (by rfl) ?_ HS.out ?_
    rotate_left
    · (intro wS hwS; (try dsimp only at hwS); go_simp; try with_reducible rfl)
    simp only [Act.put, List.getElem_toArray, List.getElem_cons_zero, List.getElem_cons_succ, List.setIfInBounds_toArray, List.set_cons_zero, List.set_cons_succ]
    refine wpU_take (i := 4) (v := ?_) rfl (by kernel_rfl) (by kernel_rfl) (by kernel_rfl) (by kernel_rfl) (fun _ _ _ h => h) (by rfl) ?_ HS.out ?_
    rotate_left
    · (intro wS hwS; (try dsimp only at hwS); go_simp; try with_reducible rfl)
    simp only [Act.put, List.getElem_toArray, List.getElem_cons_zero, List.getElem_cons_succ, List.setIfInBounds_toArray, List.set_cons_zero, List.set_cons_succ]
    refine wpU_take (i := 5) (v := ?_) rfl (by kernel_rfl) (by kernel_rfl) (by kernel_rfl) (by kernel_rfl) (fun _ _ _ h => h) (by rfl) ?_ HS.out ?_
    rotate_left
    · (intro wS hwS; (try dsimp only at hwS); go_simp; try with_reducible rfl)
    simp only [Act.put, List.getElem_toArray, List.getElem_cons_zero, List.getElem_cons_succ, List.setIfInBounds_toArray, List.set_cons_zero, List.set_cons_succ]
    refine wpU_take (i := 6) (v := ?_) rfl (by kernel_rfl) (by kernel_rfl) (by kernel_rfl) (by kernel_rfl) (fun _ _ _ h => h) (by rfl) ?_ HS.out ?_
    rotate_left
    · (intro wS hwS; (try dsimp only at hwS); go_simp; try with_reducible rfl)
    simp only [Act.put, List.getElem_toArray, List.getElem_cons_zero, List.getElem_cons_succ, List.setIfInBounds_toArray, List.set_cons_zero, List.set_cons_succ]
    refine wpU_take (i := 7) (v := ?_) rfl (by kernel_rfl) (by kernel_rfl) (by kernel_rfl) (by kernel_rfl) (fun _ _ _ h => h) (by rfl) ?_ HS.out ?_
    rotate_left
    · (intro wS hwS; (try dsimp only at hwS); go_simp; try with_reducible rfl)
    simp only [Act.put, List.getElem_toArray, List.getElem_cons_zero, List.getElem_cons_succ, List.setIfInBounds_toArray, List.set_cons_zero, List.set_cons_succ]
    refine wpU_take (i := 8) (v := ?_) rfl (by kernel_rfl) (by kernel_rfl) (by kernel_rfl) (by kernel_rfl) (fun _ _ _ h => h) (by rfl) ?_ HS.out ?_
    rotate_left
    · (intro wS hwS; (try dsimp only at hwS); go_simp; try with_reducible rfl)
    simp only [Act.put, List.getElem_toArray, List.getElem_cons_zero, List.getElem_cons_succ, List.setIfInBounds_toArray, List.set_cons_zero, List.set_cons_succ]
    refine wpU_take (i := 9) (v := ?_) rfl (by kernel_rfl) (by kernel_rfl) (by kernel_rfl) (by kernel_rfl) (fun _ _ _ h => h) (by rfl) ?_ HS.out ?_
    rotate_left
    · (intro wS hwS; (try dsimp only at hwS); go_simp; try with_reducible rfl)
    simp only [Act.put, List.getElem_toArray, List.getElem_cons_zero, List.getElem_cons_succ, List.setIfInBounds_toArray, List.set_cons_zero, List.set_cons_succ]
    refine wpU_take (i := 10) (v := ?_) rfl (by kernel_rfl) (by kernel_rfl) (by kernel_rfl) (by kernel_rfl) (fun _ _ _ h => h) (by rfl) ?_ HS.out ?_
    rotate_left
    · (intro wS hwS; (try dsimp only at hwS); go_simp; try with_reducible rfl)
    simp only [Act.put, List.getElem_toArray, List.getElem_cons_zero, List.getElem_cons_succ, List.setIfInBounds_toArray, List.set_cons_zero, List.set_cons_succ]
    refine wpU_take (i := 11) (v := ?_) rfl (by kernel_rfl) (by kernel_rfl) (by kernel_rfl) (by kernel_rfl) (fun _ _ _ h => h) (by rfl) ?_ HS.out ?_
    rotate_left
    · (intro wS hwS; (try dsimp only at hwS); go_simp; try with_reducible rfl)
    simp only [Act.put, List.getElem_toArray, List.getElem_cons_zero, List.getElem_cons_succ, List.setIfInBounds_toArray, List.set_cons_zero, List.set_cons_succ]
    refine wpU_take (i := 12) (v := ?_) rfl (by kernel_rfl) (by kernel_rfl) (by kernel_rfl) (by kernel_rfl) (fun _ _ _ h => h) (by rfl) ?_ HS.out ?_
    rotate_left
    · (intro wS hwS; (try dsimp only at hwS); go_simp; try with_reducible rfl)
    simp only [Act.put, List.getElem_toArray, List.getElem_cons_zero, List.getElem_cons_succ, List.setIfInBounds_toArray, List.set_cons_zero, List.set_cons_succ]
    refine wpU_take (i := 13) (v := ?_) rfl (by kernel_rfl) (by kernel_rfl) (by kernel_rfl) (by kernel_rfl) (fun _ _ _ h => h) (by rfl) ?_ HS.out ?_
    rotate_left
    · (intro wS hwS; (try dsimp only at hwS); go_simp; try with_reducible rfl)
    simp only [Act.put, List.getElem_toArray, List.getElem_cons_zero, List.getElem_cons_succ, List.setIfInBounds_toArray, List.set_cons_zero, List.set_cons_succ]
    refine wpU_take (i := 14) (v := ?_) rfl (by kernel_rfl) (by kernel_rfl) (by kernel_rfl) (by kernel_rfl) (fun _ _ _ h => h) (by rfl) ?_ HS.out ?_
    rotate_left
    · (intro wS hwS; (try dsimp only at hwS); go_simp; try with_reducible rfl)
    simp only [Act.put, List.getElem_toArray, List.getElem_cons_zero, List.getElem_cons_succ, List.setIfInBounds_toArray, List.set_cons_zero, List.set_cons_succ]
    refine wpL_one (i := 15) (by kernel_rfl) rfl (fun K hK => ?_)
    simp only [List.getElem_toArray, List.getElem_cons_zero, List.getElem_cons_succ]
    go_simp
    refine hK.out _ _ (fun h => absurd rfl h) ?_
    clear hK K
    refine wpL_done (by kernel_rfl) ?_ _
    go_wp2
    go_ret
    exact ⟨by simp, rfl⟩
  | false =>
    have HS : Hid ((fun w' : World => w'.cell? ⟨b, 0, none⟩ = some (.int .u64 x) ∧ w'.cell? ⟨b, 4, none⟩ = some (.int .i64 0) ∧ w'.cell? ⟨b, 5, none⟩ = some (.int .i64 2) ∧ w'.cell? ⟨bl, 0, none⟩ = some (.int .i64 0) ∧ w'.cell? ⟨bl, 1, none⟩ = some (.int .i64 1) ∧ w'.cell? ⟨ba, 0, none⟩ = some (.int .u64 y)) w.drew) := ⟨c0, c4, c5, d0, d1, e0⟩
    clear c0 c4 c5 d0 d1 e0
    go_enter Ybaf.func99, Ybaf.ntmps99
    go_upto_region 1 with (fail)
    refine wp_region_L (fun w' : World => w'.cell? ⟨b, 0, none⟩ = some (.int .u64 x) ∧ w'.cell? ⟨b, 4, none⟩ = some (.int .i64 0) ∧ w'.cell? ⟨b, 5, none⟩ = some (.int .i64 2) ∧ w'.cell? ⟨bl, 0, none⟩ = some (.int .i64 0) ∧ w'.cell? ⟨bl, 1, none⟩ = some (.int .i64 1) ∧ w'.cell? ⟨ba, 0, none⟩ = some (.int .u64 y)) 15 16 (by kernel_rfl) (by kernel_rfl) ?_
    refine wpU_take (i := 0) (v := ?_) rfl (by kernel_rfl) (by kernel_rfl) (by kernel_rfl) (by kernel_rfl) (fun _ _ _ h => h) (by rfl) ?_ HS.out ?_
    rotate_left
    · (intro wS hwS; (try dsimp only at hwS); go_simp; try with_reducible rfl)
    simp only [Act.put, List.getElem_toArray, List.getElem_cons_zero, List.getElem_cons_succ, List.setIfInBounds_toArray, List.set_cons_zero, List.set_cons_succ]
    refine wpU_take (i := 1) (v := ?_) rfl (by kernel_rfl) (by kernel_rfl) (by kernel_rfl) (by kernel_rfl) (fun _ _ _ h => h) (by rfl) ?_ HS.out ?_
    rotate_left
    · (intro wS hwS; (try dsimp only at hwS); go_simp; try with_reducible rfl)
    simp only [Act.put, List.getElem_toArray, List.getElem_cons_zero, List.getElem_cons_succ, List.setIfInBounds_toArray, List.set_cons_zero, List.set_cons_succ]
    refine wpU_take (i := 2) (v := ?_) rfl (by kernel_rfl) (by kernel_rfl) (by kernel_rfl) (by kernel_rfl) (fun _ _ _ h => h) (by rfl) ?_ HS.out ?_
    rotate_left
    · (intro wS hwS; (try dsimp only at hwS); go_simp; try with_reducible rfl)
    simp only [Act.put, List.getElem_toArray, List.getElem_cons_zero, List.getElem_cons_succ, List.setIfInBounds_toArray, List.set_cons_zero, List.set_cons_succ]
    refine wpU_take (i := 3) (v := ?_) rfl (by kernel_rfl) (by kernel_rfl) (by kernel_rfl) (by kernel_rfl) (fun _ _ _ h => h) (by rfl) ?_ HS.out ?_
    rotate_left
    · (intro wS hwS; (try dsimp only at hwS); go_simp; try with_reducible rfl)
    simp only [Act.put, List.getElem_toArray, List.getElem_cons_zero, List.getElem_cons_succ, List.setIfInBounds_toArray, List.set_cons_zero, List.set_cons_succ]
    refine wpU_take (i := 4) (v := ?_) rfl (by kernel_rfl) (by kernel_rfl) (by kernel_rfl) (by kernel_rfl) (fun _ _ _ h => h) (by rfl) ?_ HS.out ?_
    rotate_left
    · (intro wS hwS; (try dsimp only at hwS); go_simp; try with_reducible rfl)
    simp only [Act.put, List.getElem_toArray, List.getElem_cons_zero, List.getElem_cons_succ, List.setIfInBounds_toArray, List.set_cons_zero, List.set_cons_succ]
    refine wpU_take (i := 5) (v := ?_) rfl (by kernel_rfl) (by kernel_rfl) (by kernel_rfl) (by kernel_rfl) (fun _ _ _ h => h) (by rfl) ?_ HS.out ?_
    rotate_left
    · (intro wS hwS; (try dsimp only at hwS); go_simp; try with_reducible rfl)
    simp only [Act.put, List.getElem_toArray, List.getElem_cons_zero, List.getElem_cons_succ, List.setIfInBounds_toArray, List.set_cons_zero, List.set_cons_succ]
    refine wpU_take (i := 6) (v := ?_) rfl (by kernel_rfl) (by kernel_rfl) (by kernel_rfl) (by kernel_rfl) (fun _ _ _ h => h) (by rfl) ?_ HS.out ?_
    rotate_left
    · (intro wS hwS; (try dsimp only at hwS); go_simp; try with_reducible rfl)
    simp only [Act.put, List.getElem_toArray, List.getElem_cons_zero, List.getElem_cons_succ, List.setIfInBounds_toArray, List.set_cons_zero, List.set_cons_succ]
    refine wpU_skip (i := 7) rfl (by kernel_rfl) (by kernel_rfl) (by kernel_rfl) (by kernel_rfl) (fun _ _ _ h => h) (by rfl) HS.out ?_
    simp only [Act.put, List.getElem_toArray, List.getElem_cons_zero, List.getElem_cons_succ, List.setIfInBounds_toArray, List.set_cons_zero, List.set_cons_succ]
    refine wpU_skip (i := 8) rfl (by kernel_rfl) (by kernel_rfl) (by kernel_rfl) (by kernel_rfl) (fun _ _ _ h => h) (by rfl) HS.out ?_
    simp only [Act.put, List.getElem_toArray, List.getElem_cons_zero, List.getElem_cons_succ, List.setIfInBounds_toArray, List.set_cons_zero, List.set_cons_succ]
    refine wpU_skip (i := 9) rfl (by kernel_rfl) (by kernel_rfl) (by kernel_rfl) (by kernel_rfl) (fun _ _ _ h => h) (by rfl) HS.out ?_
    simp only [Act.put, List.getElem_toArray, List.getElem_cons_zero, List.getElem_cons_succ, List.setIfInBounds_toArray, List.set_cons_zero, List.set_cons_succ]
    refine wpU_skip (i := 10) rfl (by kernel_rfl) (by kernel_rfl) (by kernel_rfl) (by kernel_rfl) (fun _ _ _ h => h) (by rfl) HS.out ?_
    simp only [Act.put, List.getElem_toArray, List.getElem_cons_zero, List.getElem_cons_succ, List.setIfInBounds_toArray, List.set_cons_zero, List.set_cons_succ]
    refine wpU_skip (i := 11) rfl (by kernel_rfl) (by kernel_rfl) (by kernel_rfl) (by kernel_rfl) (fun _ _ _ h => h) (by rfl) HS.out ?_
    simp only [Act.put, List.getElem_toArray, List.getElem_cons_zero, List.getElem_cons_succ, List.setIfInBounds_toArray, List.set_cons_zero, List.set_cons_succ]
    refine wpU_skip (i := 12) rfl (by kernel_rfl) (by kernel_rfl) (by kernel_rfl) (by kernel_rfl) (fun _ _ _ h => h) (by rfl) HS.out ?_
    simp only [Act.put, List.getElem_toArray, List.getElem_cons_zero, List.getElem_cons_succ, List.setIfInBounds_toArray, List.set_cons_zero, List.set_cons_succ]
    refine wpU_skip (i := 13) rfl (by kernel_rfl) (by kernel_rfl) (by kernel_rfl) (by kernel_rfl) (fun _ _ _ h => h) (by rfl) HS.out ?_
    simp only [Act.put, List.getElem_toArray, List.getElem_cons_zero, List.getElem_cons_succ, List.setIfInBounds_toArray, List.set_cons_zero, List.set_cons_succ]
    refine wpU_take (i := 14) (v := ?_) rfl (by kernel_rfl) (by kernel_rfl) (by kernel_rfl) (by kernel_rfl) (fun _ _ _ h => h) (by rfl) ?_ HS.out ?_
    rotate_left
    · (intro wS hwS; (try dsimp only at hwS); go_simp; try with_reducible rfl)
    simp only [Act.put, List.getElem_toArray, List.getElem_cons_zero, List.getElem_cons_succ, List.setIfInBounds_toArray, List.set_cons_zero, List.set_cons_succ]
    refine wpL_one (i := 15) (by kernel_rfl) rfl (fun K hK => ?_)
    simp only [List.getElem_toArray, List.getElem_cons_zero, List.getElem_cons_succ]
    go_simp
    refine hK.out _ _ (fun h => absurd rfl h) ?_
    clear hK K
    refine wpL_done (by kernel_rfl) ?_ _
    go_wp2
    go_ret
    exact ⟨by simp, rfl⟩
end Go.Proofs.YbulkcoecFmt
