import Derived.Test.YbulkcoecFmtLane
namespace Go.Proofs.YbulkcoecFmt
open Go.RowKit Go.Deep
set_option linter.unusedVariables false
set_option linter.unusedSimpArgs false

theorem Ybaf.info96 : (Ybaf.prog.info? 96).map (fun i => (i.zero, i.size, i.bytes)) = some (some (.agg #[.pointer none, .nilFunc]), 2, 16) := by kernel_rfl

/-- The row of ready copies stands apart. -/
structure Apart (X : Pl) (vr vlog : Value) : Prop where
  K : vr.ownBlock ≠ some X.bK
  L : vr.ownBlock ≠ some X.bL
  F : vr.ownBlock ≠ some X.bF
  M : vr.ownBlock ≠ some X.bM
  N : vr.ownBlock ≠ some X.bN
  V : ∀ g, vlog.ownBlock = some g → vr.ownBlock ≠ some g

set_option maxRecDepth 100000 in
set_option maxHeartbeats 4000000 in
/-- Queue.Add. -/
theorem add_any (X : Pl) (O : X.Ok) {mu taken : Int} {vr : Value} {hd : Bool} {k : Nat} {vlog : Value} {logs : List Value} {w : World} (h : Hn X mu taken vr hd k vlog logs w) (n : Nat) (xs : List Value) (hrow : w.ownsRow X.B 96 2 vr n xs) (hA : Apart X vr vlog) (hn : n ≤ 900) (pb : Nat) :
    Calls Ybaf.prog 25 #[.pointer (some ⟨X.bN, 5, none⟩), .agg #[.pointer (some ⟨pb, 0, none⟩), hval X.bK X.bL X.bF]] w fun e w' => e = .returned (.tuple #[]) ∧
      ∃ vr', Hn X mu taken vr' hd k vlog logs w' ∧ w'.ownsRow X.B 96 2 vr' (n + 1) (xs ++ [.pointer (some ⟨pb, 0, none⟩), hval X.bK X.bL X.bF]) ∧ Stay (fun b => b = X.bN ∨ vr.ownBlock = some b) w w' ∧ NewRow w vr vr' ∧ Apart X vr' vlog := by
  obtain ⟨D, hD⟩ : ∃ D, w.heap.size = D := ⟨_, rfl⟩
  obtain ⟨W1, hW1⟩ : ∃ W, W = w.alloc (.cells #[.pointer (some ⟨pb, 0, none⟩), hval X.bK X.bL X.bF] 96) := ⟨_, rfl⟩
  have hs1 : Stay (fun _ => False) w W1 := by rw [hW1]; exact Stay.alloc _ _ _
  have hD1 : W1.heap[D]? = some (.cells #[.pointer (some ⟨pb, 0, none⟩), hval X.bK X.bL X.bF] 96 (0, 0)) := by rw [hW1, ← hD]; exact heap_alloc_new w _
  have h1 := h.idle hs1
  have hrow1 := hs1.row hrow (fun _ _ e => e)
  have hzD : W1.heap.size = D + 1 := by rw [hW1, World.size_alloc, hD]
  have HSS : Hid ((fun w' : World => w'.cell? ⟨X.bN, 8, none⟩ = some vr ∧ w'.cell? ⟨D, 0, none⟩ = some (.pointer (some ⟨pb, 0, none⟩)) ∧ w'.cell? ⟨D, 1, none⟩ = some (hval X.bK X.bL X.bF)) W1.drew) := ⟨cell_in h1.n (o := 8) rfl, cell_in hD1 (o := 0) rfl, cell_in hD1 (o := 1) rfl⟩
  obtain ⟨W2, hW2⟩ : ∃ W, W = (W1.alloc (.cells #[.pointer (some ⟨pb, 0, none⟩), hval X.bK X.bL X.bF] 96)).drew := ⟨_, rfl⟩
  have hs2 : Stay (fun _ => False) W1 W2 := by rw [hW2]; exact (Stay.alloc _ _ _).drew
  have hE2 : W2.heap[D + 1]? = some (.cells #[.pointer (some ⟨pb, 0, none⟩), hval X.bK X.bL X.bF] 96 (0, 0)) := by rw [hW2, ← hzD]; exact heap_alloc_new W1 _
  have h2 := h1.idle hs2
  have hrow2 := hs2.row hrow1 (fun _ _ e => e)
  have hzE : W2.heap.size = D + 1 + 1 := by rw [hW2]; show (W1.alloc _).heap.size = _; rw [World.size_alloc, hzD]
  have HS2 : Hid ((fun w' : World => w'.cell? ⟨X.bN, 8, none⟩ = some vr ∧ w'.cell? ⟨D, 0, none⟩ = some (.pointer (some ⟨pb, 0, none⟩)) ∧ w'.cell? ⟨D, 1, none⟩ = some (hval X.bK X.bL X.bF)) W2) := ⟨cell_in h2.n (o := 8) rfl, cell_in (hs2.at_ hD1 (fun e => e)) (o := 0) rfl, cell_in (hs2.at_ hD1 (fun e => e)) (o := 1) rfl⟩
  obtain ⟨i0, hi0, hz0, hz1, hz2⟩ := info_parts Ybaf.info96
  have HROWD : Hid (∀ g, vr.ownBlock = some g → g < D) := fun g hg => by rw [← hD]; exact (hrow.lt g hg).2
  have HI : Hid (Ybaf.prog.info? 96 = some i0 ∧ i0.zero = some (.agg #[.pointer none, .nilFunc]) ∧ i0.size = 2 ∧ i0.bytes = 16) := ⟨hi0, hz0, hz1, hz2⟩
  have HW1 : Hid (w.alloc (.cells #[.pointer (some ⟨pb, 0, none⟩), hval X.bK X.bL X.bF] 96) = W1 ∧ w.heap.size = D) := ⟨hW1.symm, hD⟩
  have HW2 : Hid ((W1.alloc (.cells #[.pointer (some ⟨pb, 0, none⟩), hval X.bK X.bL X.bF] 96)).drew = W2 ∧ W1.heap.size = D + 1 ∧ W2.heap.size = D + 1 + 1 ∧ W2.heap[D + 1]? = some (.cells #[.pointer (some ⟨pb, 0, none⟩), hval X.bK X.bL X.bF] 96 (0, 0))) := ⟨hW2.symm, hzD, hzE, hE2⟩
  have H2 : Hid (Hn X mu taken vr hd k vlog logs W2 ∧ W2.ownsRow X.B 96 2 vr n xs ∧ Stay (fun _ => False) w W2 ∧ Apart X vr vlog ∧ W2.heap[D]? = some (.cells #[.pointer (some ⟨pb, 0, none⟩), hval X.bK X.bL X.bF] 96 (0, 0))) := ⟨h2, hrow2, hs1.trans hs2, hA, hs2.at_ hD1 (fun e => e)⟩
  have H0 : Hid (Hn X mu taken vr hd k vlog logs w) := h
  clear hD hW1 hs1 hD1 h1 hrow1 hW2 hs2 hE2 h2 hrow2 h hrow hA hi0 hz0 hz1 hz2 hzD hzE
  go_enter Ybaf.func25, Ybaf.ntmps25
  go_upto_region 1 with (fail)
  rw [HW1.out.1, HW1.out.2]
  refine wp_region_L (fun w' => w'.cell? ⟨X.bN, 8, none⟩ = some vr ∧ w'.cell? ⟨D, 0, none⟩ = some (.pointer (some ⟨pb, 0, none⟩)) ∧ w'.cell? ⟨D, 1, none⟩ = some (hval X.bK X.bL X.bF)) 10 11 (by kernel_rfl) (by kernel_rfl) ?_
  refine wpU_take (i := 0) (v := ?_) rfl (by kernel_rfl) (by kernel_rfl) (by kernel_rfl) (by kernel_rfl) (fun _ _ _ h => h) (by rfl) ?_ HSS.out ?_
  rotate_left
  · (intro wS hwS; (try dsimp only at hwS); go_simp; try with_reducible rfl)
  simp only [Act.put, List.getElem_toArray, List.getElem_cons_zero, List.getElem_cons_succ, List.setIfInBounds_toArray, List.set_cons_zero, List.set_cons_succ]
  refine wpU_take (i := 1) (v := ?_) rfl (by kernel_rfl) (by kernel_rfl) (by kernel_rfl) (by kernel_rfl) (fun _ _ _ h => h) (by rfl) ?_ HSS.out ?_
  rotate_left
  · (intro wS hwS; (try dsimp only at hwS); go_simp; try with_reducible rfl)
  simp only [Act.put, List.getElem_toArray, List.getElem_cons_zero, List.getElem_cons_succ, List.setIfInBounds_toArray, List.set_cons_zero, List.set_cons_succ]
  refine wpU_take (i := 2) (v := ?_) rfl (by kernel_rfl) (by kernel_rfl) (by kernel_rfl) (by kernel_rfl) (fun _ _ _ h => h) (by rfl) ?_ HSS.out ?_
  rotate_left
  · (intro wS hwS; (try dsimp only at hwS); go_simp; try with_reducible rfl)
  simp only [Act.put, List.getElem_toArray, List.getElem_cons_zero, List.getElem_cons_succ, List.setIfInBounds_toArray, List.set_cons_zero, List.set_cons_succ]
  refine wpU_take (i := 3) (v := ?_) rfl (by kernel_rfl) (by kernel_rfl) (by kernel_rfl) (by kernel_rfl) (fun _ _ _ h => h) (by rfl) ?_ HSS.out ?_
  rotate_left
  · (intro wS hwS; (try dsimp only at hwS); go_simp; try with_reducible rfl)
  simp only [Act.put, List.getElem_toArray, List.getElem_cons_zero, List.getElem_cons_succ, List.setIfInBounds_toArray, List.set_cons_zero, List.set_cons_succ]
  refine wpU_take (i := 4) (v := ?_) rfl (by kernel_rfl) (by kernel_rfl) (by kernel_rfl) (by kernel_rfl) (fun _ _ _ h => h) (by rfl) ?_ HSS.out ?_
  rotate_left
  · (intro wS hwS; (try dsimp only at hwS); go_simp; try with_reducible rfl)
  simp only [Act.put, List.getElem_toArray, List.getElem_cons_zero, List.getElem_cons_succ, List.setIfInBounds_toArray, List.set_cons_zero, List.set_cons_succ]
  refine wpU_take (i := 5) (v := ?_) rfl (by kernel_rfl) (by kernel_rfl) (by kernel_rfl) (by kernel_rfl) (fun _ _ _ h => h) (by rfl) ?_ HSS.out ?_
  rotate_left
  · (intro wS hwS; (try dsimp only at hwS); go_simp; try with_reducible rfl)
  simp only [Act.put, List.getElem_toArray, List.getElem_cons_zero, List.getElem_cons_succ, List.setIfInBounds_toArray, List.set_cons_zero, List.set_cons_succ]
  refine wpL_one (i := 6) (by kernel_rfl) rfl (fun K hK => ?_)
  simp only [List.getElem_toArray, List.getElem_cons_zero, List.getElem_cons_succ]
  go_simp
  rw [HW2.out.1, HW2.out.2.1]
  refine hK.out _ _ (fun _ => HS2.out) ?_
  clear hK K
  try simp only [Act.put, List.getElem_toArray, List.getElem_cons_zero, List.getElem_cons_succ, List.setIfInBounds_toArray, List.set_cons_zero, List.set_cons_succ]
  refine wpL_one (i := 7) (by kernel_rfl) rfl (fun K hK => ?_)
  refine step_append_lies _ (by rfl) _ _ _ (by rfl) X.B 96 i0 _ 2 16 Ybaf.underlying82 HI.out.1 HI.out.2.1 HI.out.2.2.1 HI.out.2.2.2 rfl (by omega) vr n xs (by rfl) H2.out.2.1 ⟨D + 1, 0, none⟩ 1 1 [.pointer (some ⟨pb, 0, none⟩), hval X.bK X.bL X.bF] (by rfl) (by rfl) (World.news_of_block HW2.out.2.2.2) (by simp [Value.oneCell', hval]) (by omega) (bound_max (by omega)) (by omega) H2.out.1.B (D + 1 + 1) HW2.out.2.2.1 ?_
  intro gg cap w4 hown hgrow hat hlt4
  have hne : ∀ g, vr.ownBlock = some g → g ≠ X.bN := fun g hg e => H2.out.2.2.2.1.N (by rw [hg, e])
  have hs4 : Stay (fun b => vr.ownBlock = some b) W2 w4 := Stay.grown hgrow (fun g e => e)
  obtain ⟨y1, y2, y3, y4, y5⟩ := H2.out
  have h4 : Hn X mu taken vr hd k vlog logs w4 := y1.stay hs4 (fun b hb e => by have := (y2.lt b e).1; omega) y4.K y4.L y4.F (fun g hg e => y4.V g hg e) y4.M y4.N
  have hDn : ¬ vr.ownBlock = some D := fun e => by have h9 := y3.size; have h8 := HW1.out.2; have h7 := (y2.lt D e).2; have h6 := HW2.out.2.2.1; exact absurd (HROWD.out D e) (by omega)
  have HS4 : Hid ((fun w' : World => w'.cell? ⟨X.bN, 8, none⟩ = some vr ∧ w'.cell? ⟨D, 0, none⟩ = some (.pointer (some ⟨pb, 0, none⟩)) ∧ w'.cell? ⟨D, 1, none⟩ = some (hval X.bK X.bL X.bF)) w4) := ⟨cell_in h4.n (o := 8) rfl, cell_in (hs4.at_ y5 hDn) (o := 0) rfl, cell_in (hs4.at_ y5 hDn) (o := 1) rfl⟩
  have c8 := cell_in h4.n (o := 8) (u := vr) rfl
  have z8 := free_in h4.n (o := 8)
  have H4 : Hid (Hn X mu taken vr hd k vlog logs w4 ∧ w4.ownsRow X.B 96 2 (.slice (some ⟨gg, 0, none⟩) (n + 1) cap) (n + 1) (xs ++ [.pointer (some ⟨pb, 0, none⟩), hval X.bK X.bL X.bF]) ∧ Stay (fun b => vr.ownBlock = some b) w w4 ∧ (vr.ownBlock = some gg ∨ gg = D + 1 + 1)) := ⟨h4, hown, (y3.mono (fun _ _ e => e.elim)).trans hs4, hat⟩
  refine hK.out _ _ (fun _ => HS4.out) ?_
  clear hK K hown hgrow hat hlt4 hs4 y1 y2 y3 y4 y5 h4 hDn hne
  try simp only [Act.put, List.getElem_toArray, List.getElem_cons_zero, List.getElem_cons_succ, List.setIfInBounds_toArray, List.set_cons_zero, List.set_cons_succ]
  refine wpU_take (i := 8) (v := ?_) rfl (by kernel_rfl) (by kernel_rfl) (by kernel_rfl) (by kernel_rfl) (fun _ _ _ h => h) (by rfl) ?_ HS4.out ?_
  rotate_left
  · (intro wS hwS; (try dsimp only at hwS); go_simp; try with_reducible rfl)
  simp only [Act.put, List.getElem_toArray, List.getElem_cons_zero, List.getElem_cons_succ, List.setIfInBounds_toArray, List.set_cons_zero, List.set_cons_succ]
  refine wpU_take (i := 9) (v := ?_) rfl (by kernel_rfl) (by kernel_rfl) (by kernel_rfl) (by kernel_rfl) (fun _ _ _ h => h) (by rfl) ?_ HS4.out ?_
  rotate_left
  · (intro wS hwS; (try dsimp only at hwS); go_simp; try with_reducible rfl)
  simp only [Act.put, List.getElem_toArray, List.getElem_cons_zero, List.getElem_cons_succ, List.setIfInBounds_toArray, List.set_cons_zero, List.set_cons_succ]
  refine wpL_one (i := 10) (by kernel_rfl) rfl (fun K hK => ?_)
  simp only [List.getElem_toArray, List.getElem_cons_zero, List.getElem_cons_succ]
  go_simp
  refine hK.out _ _ (fun h => absurd rfl h) ?_
  clear hK K
  refine wpL_done (by kernel_rfl) ?_ _
  go_wp2
  go_end0
  obtain ⟨q1, q2, q3, q4⟩ := H4.out
  have hA := H2.out.2.2.2.1
  have h0 := H0.out
  have hnew : NewRow w vr (.slice (some ⟨gg, 0, none⟩) (n + 1) cap) := by
    rcases q4 with e | e
    · exact .inl e.symm
    · exact .inr ⟨gg, by have := HW1.out.2; omega, rfl⟩
  have hgN : gg ≠ X.bN := fun e => (hnew.ne (lt_of h0.n) hA.N) (by rw [e]; rfl)
  have hs5 : Stay (fun b => b = X.bN) w4 (w4.setCell ⟨X.bN, 8, none⟩ (.slice (some ⟨gg, 0, none⟩) (n + 1) cap)) := Stay.set _ _ _ _ rfl
  refine ⟨rfl, .slice (some ⟨gg, 0, none⟩) (n + 1) cap, q1.ready O _, hs5.row q2 (fun g hg e => hgN (by rw [← e]; exact Option.some.inj hg)), (q3.mono (fun _ _ e => .inr e)).trans' hs5 (fun _ _ e => .inl e), hnew, ⟨hnew.ne (lt_of h0.hs.hk) hA.K, hnew.ne (lt_of h0.hs.hl) hA.L, hnew.ne (lt_of h0.hs.hf) hA.F, hnew.ne (lt_of h0.m) hA.M, hnew.ne (lt_of h0.n) hA.N, fun g hg => hnew.ne (h0.hs.row.lt g hg).2 (hA.V g hg)⟩⟩
end Go.Proofs.YbulkcoecFmt
