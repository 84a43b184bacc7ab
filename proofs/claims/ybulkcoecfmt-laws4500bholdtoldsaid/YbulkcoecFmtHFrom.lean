import Derived.Test.YbulkcoecFmtHFly
namespace Go.Proofs.YbulkcoecFmt
open Go.RowKit Go.Deep
set_option linter.unusedVariables false
set_option linter.unusedSimpArgs false

/-- Which go with the held one. -/
def goes (X : Pc) (y : Int) (b : Nat) : Bool := X.keep && pk X y b

set_option maxRecDepth 100000 in
set_option maxHeartbeats 8000000 in
/-- holdFrom. -/
theorem from_any {X : Pc} {mu : Int} {vf vh : Value} {fl hl : List Nat} {h1 : Nat} {w : World} (h : Hw X mu vf fl vh hl h1 w) (hn : fl.length + hl.length ≤ 800) (hh : h1 + fl.length ≤ 90000) (hr : Rises X.idf hl) (b : Nat) (hb : X.ps b) (hown : X.own b = true) :
    Calls Ybaf.prog 38 #[ptr X.bM, ptr b] w fun e w' => e = .returned (.tuple #[]) ∧ ∃ vf' fl' vh' hl', Hw X mu vf' fl' vh' hl' (h1 + 1 + (fl.filter (goes X (X.idf b))).length) w' ∧ fl'.Perm (fl.filter (fun x => !goes X (X.idf b) x)) ∧ hl'.Perm (fl.filter (goes X (X.idf b)) ++ (b :: hl)) ∧ Rises X.idf hl' ∧ Stay (Tn X vf vh) w w' := by
  have hho : Hid (Calls Ybaf.prog 62 #[ptr X.bM, ptr b] w fun e w' => e = .returned (.tuple #[]) ∧ ∃ vh' hl', Hw X mu vf fl vh' hl' (h1 + 1) w' ∧ hl'.Perm (b :: hl) ∧ Rises X.idf hl' ∧ Stay (fun x => vh.ownBlock = some x ∨ x = X.bM ∨ x = X.n1) w w' ∧ Moved w vh vh') := hold_any h (by omega) (by omega) hr b hb hown
  clear h
  go_enter Ybaf.func38, Ybaf.ntmps38
  go_wp2_with fail
  refine Calls.mono hho.out ?_
  rintro e w1 ⟨rfl, vh1, hl1, a1, a2, a3, a4, a5⟩
  have hst : Stay (Tn X vf vh) w w1 := a4.mono (fun x _ e => by
    rcases e with e | e | e
    · exact .inr (.inr (.inr e))
    · exact .inl e
    · exact .inr (.inl e))
  have c2 := cell_in a1.m (o := 2) (u := .bool X.keep) rfl
  have hl1n : hl1.length = hl.length + 1 := by rw [a2.length_eq]; rfl
  cases hkp : X.keep with
  | false =>
    rw [hkp] at c2
    have hq : ∀ x, goes X (X.idf b) x = false := fun x => by unfold goes; rw [hkp]; rfl
    have e1 : fl.filter (goes X (X.idf b)) = [] := List.filter_eq_nil_iff.2 (fun x _ => by rw [hq x]; simp)
    have e2 : fl.filter (fun x => !goes X (X.idf b) x) = fl := List.filter_eq_self.2 (fun x _ => by rw [hq x]; rfl)
    have hfin : Hid (∃ vf' fl' vh' hl', Hw X mu vf' fl' vh' hl' (h1 + 1 + (fl.filter (goes X (X.idf b))).length) w1 ∧ fl'.Perm (fl.filter (fun x => !goes X (X.idf b) x)) ∧ hl'.Perm (fl.filter (goes X (X.idf b)) ++ (b :: hl)) ∧ Rises X.idf hl' ∧ Stay (Tn X vf vh) w w1) := by
      rw [e1, e2]
      exact ⟨vf, fl, vh1, hl1, a1, List.Perm.refl _, a2, a3, hst⟩
    clear a1 a2 a3 a4 a5 hst e1 e2 hq hkp
    go_wp2_with fail
    go_end0
    exact ⟨rfl, hfin.out⟩
  | true =>
    rw [hkp] at c2
    have hq : ∀ x, goes X (X.idf b) x = pk X (X.idf b) x := fun x => by unfold goes; rw [hkp]; rfl
    have e1 : fl.filter (goes X (X.idf b)) = fl.filter (pk X (X.idf b)) := List.filter_congr (fun x _ => hq x)
    have e2 : fl.filter (fun x => !goes X (X.idf b) x) = fl.filter (fun x => !pk X (X.idf b) x) := List.filter_congr (fun x _ => by rw [hq x])
    have hfl : Hid (Calls Ybaf.prog 63 #[ptr X.bM, .agg #[.int .i64 0, .int .i64 1], .int .u64 (X.idf b)] w1.drew fun e w' => e = .returned (.tuple #[]) ∧ ∃ vf' fl' vh' hl', Hw X mu vf' fl' vh' hl' (h1 + 1 + (fl.filter (pk X (X.idf b))).length) w' ∧ fl'.Perm (fl.filter (fun x => !pk X (X.idf b) x)) ∧ hl'.Perm (fl.filter (pk X (X.idf b)) ++ hl1) ∧ Rises X.idf hl' ∧ Stay (Tn X vf vh1) w1.drew w') :=
      fly_any (a1.idle ((Stay.refl _ w1).drew)) (by omega) (by omega) a3 (X.idf b)
    have hfin : Hid (∀ w', (∃ vf' fl' vh' hl', Hw X mu vf' fl' vh' hl' (h1 + 1 + (fl.filter (pk X (X.idf b))).length) w' ∧ fl'.Perm (fl.filter (fun x => !pk X (X.idf b) x)) ∧ hl'.Perm (fl.filter (pk X (X.idf b)) ++ hl1) ∧ Rises X.idf hl' ∧ Stay (Tn X vf vh1) w1.drew w') →
        ∃ vf' fl' vh' hl', Hw X mu vf' fl' vh' hl' (h1 + 1 + (fl.filter (goes X (X.idf b))).length) w' ∧ fl'.Perm (fl.filter (fun x => !goes X (X.idf b) x)) ∧ hl'.Perm (fl.filter (goes X (X.idf b)) ++ (b :: hl)) ∧ Rises X.idf hl' ∧ Stay (Tn X vf vh) w w') := by
      rintro w' ⟨vf', fl', vh', hl', b1, b2, b3, b4, b5⟩
      rw [e1, e2]
      refine ⟨vf', fl', vh', hl', b1, b2, b3.trans (List.Perm.append_left _ a2), b4, ?_⟩
      refine hst.trans' (Stay.of_drew b5) (fun x hx e => ?_)
      rcases e with e | e | e | e
      · exact .inl e
      · exact .inr (.inl e)
      · exact .inr (.inr (.inl e))
      · rcases a5 with a5 | ⟨g, a5, hlt⟩
        · rw [a5] at e; exact .inr (.inr (.inr e))
        · rw [a5] at e; simp only [Option.some.injEq] at e; omega
    obtain ⟨tt, sq, du, hpd⟩ := a1.pd b hb
    rw [hown] at hpd
    have HS : Hid ((fun w' : World => w'.cell? ⟨b, 4, none⟩ = some (.int .i64 0) ∧ w'.cell? ⟨b, 5, none⟩ = some (.int .i64 1) ∧ w'.cell? ⟨b, 0, none⟩ = some (.int .u64 (X.idf b))) w1.drew) := ⟨cell_in hpd rfl, cell_in hpd rfl, cell_in hpd rfl⟩
    clear a1 a2 a3 a4 a5 hst e1 e2 hq hkp hpd
    go_upto_region 2 with (fail)
    refine wp_region_L (fun w' : World => w'.cell? ⟨b, 4, none⟩ = some (.int .i64 0) ∧ w'.cell? ⟨b, 5, none⟩ = some (.int .i64 1) ∧ w'.cell? ⟨b, 0, none⟩ = some (.int .u64 (X.idf b))) 10 11 (by kernel_rfl) (by kernel_rfl) ?_
    refine wpU_take (i := 0) (v := ?_) rfl (by kernel_rfl) (by kernel_rfl) (by kernel_rfl) (by kernel_rfl) (fun _ _ _ h => h) (by rfl) ?_ HS.out ?_
    rotate_left
    · (intro wS hwS; (try dsimp only at hwS); go_simp; try with_reducible rfl)
    simp only [Act.put, List.getElem_toArray, List.getElem_cons_zero, List.getElem_cons_succ, List.setIfInBounds_toArray, List.set_cons_zero, List.set_cons_succ]
    refine wpU_take (i := 1) (v := ?_) rfl (by kernel_rfl) (by kernel_rfl) (by kernel_rfl) (by kernel_rfl) (fun _ _ _ h => h) (by rfl) ?_ HS.out ?_
    rotate_left
    · (intro wS hwS; (try dsimp only at hwS); go_simp; try with_reducible rfl)
    simp only [Act.put, List.getElem_toArray, List.getElem_cons_zero, List.getElem_cons_succ, List.setIfInBounds_toArray, List.set_cons_zero, List.set_cons_succ]
    refine wpU_take (i := 2) (v := ?_) rfl (by kernel_rfl) (by kernel_rfl) (by kernel_rfl) (by kernel_rfl) (fun _ _ _ h => h) (by rfl) ?_ HS.out ?_
    rotate_left
    · (intro wS hwS; (try dsimp only at hwS); go_simp; try with_reducible rfl)
    simp only [Act.put, List.getElem_toArray, List.getElem_cons_zero, List.getElem_cons_succ, List.setIfInBounds_toArray, List.set_cons_zero, List.set_cons_succ]
    refine wpU_take (i := 3) (v := ?_) rfl (by kernel_rfl) (by kernel_rfl) (by kernel_rfl) (by kernel_rfl) (fun _ _ _ h => h) (by rfl) ?_ HS.out ?_
    rotate_left
    · (intro wS hwS; (try dsimp only at hwS); go_simp; try with_reducible rfl)
    simp only [Act.put, List.getElem_toArray, List.getElem_cons_zero, List.getElem_cons_succ, List.setIfInBounds_toArray, List.set_cons_zero, List.set_cons_succ]
    refine wpU_take (i := 4) (v := ?_) rfl (by kernel_rfl) (by kernel_rfl) (by kernel_rfl) (by kernel_rfl) (fun _ _ _ h => h) (by rfl) ?_ HS.out ?_
    rotate_left
    · (intro wS hwS; (try dsimp only at hwS); go_simp; try with_reducible rfl)
    simp only [Act.put, List.getElem_toArray, List.getElem_cons_zero, List.getElem_cons_succ, List.setIfInBounds_toArray, List.set_cons_zero, List.set_cons_succ]
    refine wpU_take (i := 5) (v := ?_) rfl (by kernel_rfl) (by kernel_rfl) (by kernel_rfl) (by kernel_rfl) (fun _ _ _ h => h) (by rfl) ?_ HS.out ?_
    rotate_left
    · (intro wS hwS; (try dsimp only at hwS); go_simp; try with_reducible rfl)
    simp only [Act.put, List.getElem_toArray, List.getElem_cons_zero, List.getElem_cons_succ, List.setIfInBounds_toArray, List.set_cons_zero, List.set_cons_succ]
    refine wpU_take (i := 6) (v := ?_) rfl (by kernel_rfl) (by kernel_rfl) (by kernel_rfl) (by kernel_rfl) (fun _ _ _ h => h) (by rfl) ?_ HS.out ?_
    rotate_left
    · (intro wS hwS; (try dsimp only at hwS); go_simp; try with_reducible rfl)
    simp only [Act.put, List.getElem_toArray, List.getElem_cons_zero, List.getElem_cons_succ, List.setIfInBounds_toArray, List.set_cons_zero, List.set_cons_succ]
    refine wpU_take (i := 7) (v := ?_) rfl (by kernel_rfl) (by kernel_rfl) (by kernel_rfl) (by kernel_rfl) (fun _ _ _ h => h) (by rfl) ?_ HS.out ?_
    rotate_left
    · (intro wS hwS; (try dsimp only at hwS); go_simp; try with_reducible rfl)
    simp only [Act.put, List.getElem_toArray, List.getElem_cons_zero, List.getElem_cons_succ, List.setIfInBounds_toArray, List.set_cons_zero, List.set_cons_succ]
    refine wpU_take (i := 8) (v := ?_) rfl (by kernel_rfl) (by kernel_rfl) (by kernel_rfl) (by kernel_rfl) (fun _ _ _ h => h) (by rfl) ?_ HS.out ?_
    rotate_left
    · (intro wS hwS; (try dsimp only at hwS); go_simp; try with_reducible rfl)
    simp only [Act.put, List.getElem_toArray, List.getElem_cons_zero, List.getElem_cons_succ, List.setIfInBounds_toArray, List.set_cons_zero, List.set_cons_succ]
    refine wpU_take (i := 9) (v := ?_) rfl (by kernel_rfl) (by kernel_rfl) (by kernel_rfl) (by kernel_rfl) (fun _ _ _ h => h) (by rfl) ?_ HS.out ?_
    rotate_left
    · (intro wS hwS; (try dsimp only at hwS); go_simp; try with_reducible rfl)
    simp only [Act.put, List.getElem_toArray, List.getElem_cons_zero, List.getElem_cons_succ, List.setIfInBounds_toArray, List.set_cons_zero, List.set_cons_succ]
    refine wpL_one (i := 10) (by kernel_rfl) rfl (fun K hK => ?_)
    simp only [List.getElem_toArray, List.getElem_cons_zero, List.getElem_cons_succ]
    go_simp
    refine Calls.mono hfl.out ?_
    rintro e w2 ⟨rfl, hw2⟩
    replace hw2 := hfin.out w2 hw2
    replace hw2 : Hid _ := hw2
    refine hK.out _ _ (fun h => absurd rfl h) ?_
    clear hK K
    refine wpL_done (by kernel_rfl) ?_ _
    go_wp2
    go_end0
    exact ⟨rfl, hw2.out⟩
end Go.Proofs.YbulkcoecFmt
