import Derived.Test.YbulkcoguDoorReplayWalk
namespace Go.Proofs.YbulkcoguDoor
open Go.RowKit Go.Deep
set_option linter.unusedVariables false
set_option linter.unusedSimpArgs false

set_option maxRecDepth 100000 in
set_option maxHeartbeats 4000000 in
/-- k.unplace(i) before anything was recorded. -/
theorem unplace_replay {L : Lay} (G : Good L) {wait : Nat → Int} (R : Root L wait) (hwb : ∀ u, u < L.n → -128 ≤ wait u ∧ wait u ≤ 127) (hcn : ∀ g, g < L.s → L.cnt g = Cn L.rd L.m g) (hadd0 : ∀ v, L.n ≤ v → L.add v = 0)
    {st : St} {w : World} (h : Sta L st w) (hrc : st.rc = false) (htr0 : st.tr = []) (hmk : st.mks = []) (hem : st.ems = []) (hpc : st.pc = 0) (htk : st.taken ≤ 100000)
    (k g cap : Nat) (hvp : st.vp = .slice (some ⟨g, 0, none⟩) (k + 1) cap) (hcap : k + 1 ≤ cap) (hk : k + 1 = st.pl.length) (hk6 : k ≤ 6) (hnd : st.pl.Nodup) (hpm : ∀ v ∈ st.pl, v < L.m) (i : Nat) :
    Calls Ybad.prog 8 #[.pointer (some ⟨L.K, 0, none⟩), .int .i64 i] w fun e w' => e = .returned (.tuple #[]) ∧ ∃ st', Sta L st' w' ∧ Inv L.add L.rd wait L.m L.s (st.pl.take k) st'.ps ∧ st'.pl = st.pl.take k ∧ st'.rc = true ∧ st'.mks.length = k ∧ st'.ems.length = k := by
  have k17 := h.core.kd 17 _ rfl
  have k20 := h.core.kd 20 _ rfl
  rw [hvp] at k17
  rw [hrc] at k20
  have HDR : Hid (Calls Ybad.prog 15 #[.pointer (some ⟨L.K, 0, none⟩)] w fun e w' => e = .returned (.tuple #[]) ∧ w' = w) := drop_any G w h.core.fix
  have HRP : Hid (Calls Ybad.prog 16 #[.pointer (some ⟨L.K, 0, none⟩), .slice (some ⟨g, 0, none⟩) k cap] w.drew fun e w' => e = .returned (.tuple #[]) ∧ ∃ st', Sta L st' w' ∧ Inv L.add L.rd wait L.m L.s (st.pl.take k) st'.ps ∧ st'.pl = st.pl.take k ∧ st'.rc = true ∧ st'.mks.length = k ∧ st'.ems.length = k) :=
    replay_any G R (fun _ _ => .inr trivial) hwb hcn hadd0 (h.drewN 1) hrc htr0 hmk hem hpc htk k g cap hvp hk hk6 hnd hpm
  obtain ⟨k1, hk1⟩ : ∃ x, k + 1 = x := ⟨_, rfl⟩
  rw [hk1] at k17
  have hkI : (k1 : Int) - 1 = (k : Int) := by omega
  have hwk : IntKind.i64.wrap (k : Int) = k := by rw [IntKind.wrap_i64]; omega
  have hkc : (k : Int) ≤ (cap : Int) := by omega
  have hk0 : (0 : Int) ≤ (k : Int) := by omega
  have hkd : decide ((k : Int) ≤ (cap : Int)) = true := by simp; omega
  have hkn : k ≤ cap := by omega
  clear h hrc htr0 hmk hem hpc htk hvp hk hnd hpm hwb hcn hadd0 R hcap hk1
  go_enter Ybad.func8, Ybad.ntmps8
  go_wp2_with (first | (go_at_call 15; refine HDR.out.mono ?_; rintro _ wf ⟨rfl, hwf⟩; rw [hwf]; clear hwf))
  refine wp_region_L (fun w' => w'.cell? ⟨L.K, 17, none⟩ = some (.slice (some ⟨g, 0, none⟩) k1 cap)) 12 13 (by kernel_rfl) (by kernel_rfl) ?_
  have HSS : Hid ((fun w' : World => w'.cell? ⟨L.K, 17, none⟩ = some (.slice (some ⟨g, 0, none⟩) k1 cap)) w.drew) := k17
  refine wpU_take (i := 0) (v := ?_) rfl (by kernel_rfl) (by kernel_rfl) (by kernel_rfl) (by kernel_rfl) (fun _ _ _ h => h) (by rfl) ?_ HSS.out ?_
  rotate_left
  · (intro wS hwS; (try dsimp only at hwS); go_simp; try with_reducible rfl)
  simp only [Act.put, List.getElem_toArray, List.getElem_cons_zero, List.getElem_cons_succ, List.setIfInBounds_toArray, List.set_cons_zero, List.set_cons_succ]
  refine wpU_take (i := 1) (v := ?_) rfl (by kernel_rfl) (by kernel_rfl) (by kernel_rfl) (by kernel_rfl) (fun _ _ _ h => h) (by rfl) ?_ HSS.out ?_
  rotate_left
  · (intro wS hwS; (try dsimp only at hwS); go_simp; try with_reducible rfl)
  simp only [Act.put, List.getElem_toArray, List.getElem_cons_zero, List.getElem_cons_succ, List.setIfInBounds_toArray, List.set_cons_zero, List.set_cons_succ]
  refine wpU_take (i := 2) (v := ?_) rfl (by kernel_rfl) (by kernel_rfl) (by kernel_rfl) (by kernel_rfl) (fun _ _ _ h => h) (by rfl) ?_ HSS.out ?_
  rotate_left
  · (intro wS hwS; (try dsimp only at hwS); go_simp; try with_reducible rfl)
  simp only [Act.put, List.getElem_toArray, List.getElem_cons_zero, List.getElem_cons_succ, List.setIfInBounds_toArray, List.set_cons_zero, List.set_cons_succ]
  refine wpU_take (i := 3) (v := ?_) rfl (by kernel_rfl) (by kernel_rfl) (by kernel_rfl) (by kernel_rfl) (fun _ _ _ h => h) (by rfl) ?_ HSS.out ?_
  rotate_left
  · (intro wS hwS; (try dsimp only at hwS); go_simp; try with_reducible rfl)
  simp only [Act.put, List.getElem_toArray, List.getElem_cons_zero, List.getElem_cons_succ, List.setIfInBounds_toArray, List.set_cons_zero, List.set_cons_succ]
  refine wpU_take (i := 4) (v := ?_) rfl (by kernel_rfl) (by kernel_rfl) (by kernel_rfl) (by kernel_rfl) (fun _ _ _ h => h) (by rfl) ?_ HSS.out ?_
  rotate_left
  · (intro wS hwS; (try dsimp only at hwS); go_simp; try with_reducible rfl)
  simp only [Act.put, List.getElem_toArray, List.getElem_cons_zero, List.getElem_cons_succ, List.setIfInBounds_toArray, List.set_cons_zero, List.set_cons_succ]
  refine wpU_take (i := 5) (v := ?_) rfl (by kernel_rfl) (by kernel_rfl) (by kernel_rfl) (by kernel_rfl) (fun _ _ _ h => h) (by rfl) ?_ HSS.out ?_
  rotate_left
  · (intro wS hwS; (try dsimp only at hwS); go_simp; try with_reducible rfl)
  simp only [Act.put, List.getElem_toArray, List.getElem_cons_zero, List.getElem_cons_succ, List.setIfInBounds_toArray, List.set_cons_zero, List.set_cons_succ]
  refine wpU_take (i := 6) (v := ?_) rfl (by kernel_rfl) (by kernel_rfl) (by kernel_rfl) (by kernel_rfl) (fun _ _ _ h => h) (by rfl) ?_ HSS.out ?_
  rotate_left
  · (intro wS hwS; (try dsimp only at hwS); go_simp; try with_reducible rfl)
  simp only [Act.put, List.getElem_toArray, List.getElem_cons_zero, List.getElem_cons_succ, List.setIfInBounds_toArray, List.set_cons_zero, List.set_cons_succ]
  refine wpU_take (i := 7) (v := ?_) rfl (by kernel_rfl) (by kernel_rfl) (by kernel_rfl) (by kernel_rfl) (fun _ _ _ h => h) (by rfl) ?_ HSS.out ?_
  rotate_left
  · (intro wS hwS; (try dsimp only at hwS); go_simp; try with_reducible rfl)
  simp only [Act.put, List.getElem_toArray, List.getElem_cons_zero, List.getElem_cons_succ, List.setIfInBounds_toArray, List.set_cons_zero, List.set_cons_succ]
  refine wpU_take (i := 8) (v := ?_) rfl (by kernel_rfl) (by kernel_rfl) (by kernel_rfl) (by kernel_rfl) (fun _ _ _ h => h) (by rfl) ?_ HSS.out ?_
  rotate_left
  · (intro wS hwS; (try dsimp only at hwS); go_simp; try with_reducible rfl)
  simp only [Act.put, List.getElem_toArray, List.getElem_cons_zero, List.getElem_cons_succ, List.setIfInBounds_toArray, List.set_cons_zero, List.set_cons_succ]
  refine wpU_take (i := 9) (v := ?_) rfl (by kernel_rfl) (by kernel_rfl) (by kernel_rfl) (by kernel_rfl) (fun _ _ _ h => h) (by rfl) ?_ HSS.out ?_
  rotate_left
  · (intro wS hwS; (try dsimp only at hwS); go_simp; try with_reducible rfl)
  simp only [Act.put, List.getElem_toArray, List.getElem_cons_zero, List.getElem_cons_succ, List.setIfInBounds_toArray, List.set_cons_zero, List.set_cons_succ]
  refine wpU_take (i := 10) (v := ?_) rfl (by kernel_rfl) (by kernel_rfl) (by kernel_rfl) (by kernel_rfl) (fun _ _ _ h => h) (by rfl) ?_ HSS.out ?_
  rotate_left
  · (intro wS hwS; (try dsimp only at hwS); go_simp; try with_reducible rfl)
  simp only [Act.put, List.getElem_toArray, List.getElem_cons_zero, List.getElem_cons_succ, List.setIfInBounds_toArray, List.set_cons_zero, List.set_cons_succ]
  refine wpU_take (i := 11) (v := ?_) rfl (by kernel_rfl) (by kernel_rfl) (by kernel_rfl) (by kernel_rfl) (fun _ _ _ h => h) (by rfl) ?_ HSS.out ?_
  rotate_left
  · (intro wS hwS; (try dsimp only at hwS); go_simp; try with_reducible rfl)
  simp only [Act.put, List.getElem_toArray, List.getElem_cons_zero, List.getElem_cons_succ, List.setIfInBounds_toArray, List.set_cons_zero, List.set_cons_succ]
  refine wpL_one (i := 12) (by kernel_rfl) rfl (fun K hK => ?_)
  simp only [List.getElem_toArray, List.getElem_cons_zero, List.getElem_cons_succ]
  go_simp
  refine HRP.out.mono ?_
  rintro _ w3 ⟨rfl, hpost⟩
  refine hK.out _ _ (fun h => absurd rfl h) ?_
  clear hK K
  refine wpL_done (by kernel_rfl) ?_ _
  have HPO : Hid _ := hpost
  clear hpost
  go_wp2
  refine bodyPost_ret (results_none rfl _ _ _) rfl ?_
  exact ⟨rfl, HPO.out⟩
end Go.Proofs.YbulkcoguDoor
