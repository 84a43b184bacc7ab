import Derived.Test.YbulkcoguDoorReplay
namespace Go.Proofs.YbulkcoguDoor
open Go.RowKit Go.Deep
set_option linter.unusedVariables false
set_option linter.unusedSimpArgs false

/-- The root that was laid by. -/
structure Root (L : Lay) (wait : Nat → Int) : Prop where
  all : ∃ bQ cq bZ cz, L.vq = .slice (some ⟨bQ, 0, none⟩) (2 * L.n + 1) cq ∧ L.vz = .slice (some ⟨bZ, 0, none⟩) L.n cz ∧ bQ < L.w1.heap.size ∧ ¬ L.Spec bQ ∧ bZ < L.w1.heap.size ∧ ¬ L.Spec bZ ∧
    (∀ o, o < 2 * L.n → ∃ x : Nat, L.w1.cell? ⟨bQ, o, none⟩ = some (.int .u64 x) ∧ L.w1.cell? ⟨L.bB, o, none⟩ = some (.int .u64 x)) ∧ L.w1.cell? ⟨bQ, 2 * L.n, none⟩ = some (.int .u64 ((2 ^ L.n - 1 : Nat) : Int)) ∧
    (∀ u, u < L.n → L.w1.cell? ⟨bZ, u, none⟩ = some (.int .i64 (wait u))) ∧ kindOf L.w1 L.bB = some (2 * L.n + 1, 49, (0, 0)) ∧ kindOf L.w1 L.bW = some (L.n, 3, (0, 0))

/-- A block's kind and size stay. -/
theorem setCell_kind {w : World} {b : Nat} {t : TypeId} {n : Nat} (h : ∃ cur, w.heap[b]? = some (.cells cur t (0, 0)) ∧ cur.size = n) (p : Addr) (v : Value) : ∃ cur, (w.setCell p v).heap[b]? = some (.cells cur t (0, 0)) ∧ cur.size = n := by
  obtain ⟨cur, h1, h2⟩ := h
  by_cases he : b = p.block
  · subst he
    simp only [World.setCell, Array.getElem?_modify, if_pos, h1, Option.map_some]
    split
    · exact ⟨cur, rfl, h2⟩
    · exact ⟨_, rfl, by simpa using h2⟩
  · exact ⟨cur, (Below.heap_setCell _ _ _ _ he).trans h1, h2⟩

theorem row_form {w : World} {base n : Nat} {v : Value} {xs : List Value} (h : w.ownsRow base 3 1 v n xs) (hv : v ≠ .slice none 0 0) : ∃ g cap cur, v = .slice (some ⟨g, 0, none⟩) n cap ∧ base ≤ g ∧ w.heap[g]? = some (.cells cur 3 (0, 0)) ∧ n ≤ cap ∧ cur.toList.take n = xs := by
  rcases h.2 with ⟨h1, _⟩ | ⟨g, cap, cur, h1, h2, h3, h4, h5, h6, h7⟩
  · exact absurd h1 hv
  · exact ⟨g, cap, cur, h1, h2, h3, h4, by simpa using h7⟩

theorem alloc_set (w : World) (o : Obj) (b k : Nat) (v : Value) (h : b < w.heap.size) : (w.alloc o).setCell ⟨b, k, none⟩ v = (w.setCell ⟨b, k, none⟩ v).alloc o := by
  have : ((w.alloc o).setCell ⟨b, k, none⟩ v).heap = ((w.setCell ⟨b, k, none⟩ v).alloc o).heap := by
    apply Array.ext_getElem?
    intro i
    simp only [World.setCell, World.alloc, Array.getElem?_modify, Array.getElem?_push, Array.size_modify]
    by_cases hi : b = i
    · subst hi
      rw [if_pos rfl, if_pos rfl, if_neg (by omega), if_neg (by omega)]
    · rw [if_neg hi, if_neg hi]
  exact congrArg (fun hp => ({ w with heap := hp } : World)) this

/-- Recording begins: saved is made, recording is set. -/
theorem Sta.startRec {L : Lay} {st : St} {w : World} (h : Sta L st w) (G : Good L) (hr : st.rc = false) {M : Nat} (hM : M = 2 * L.n + 1) :
    ∃ col, Sta L { st with rc := true, vs := .slice (some ⟨w.heap.size, 0, none⟩) M M, bV := w.heap.size, sv := 0, col := col } (((w.alloc (.cells (madeCells #[.int .i64 0] M) 3)).setCell ⟨L.K, 20, none⟩ (.bool true)).setCell ⟨L.K, 24, none⟩ (.slice (some ⟨w.heap.size, 0, none⟩) M M)) := by
  have hz := h.core.fix.size
  have hKl := G.Kl
  have h1 := h.below G ((Below.refl _ w).alloc (Nat.le_refl _) (.cells (madeCells #[.int .i64 0] M) 3))
  have h2 := h1.setVs G hr w.heap.size (fun o ho => by have := (Array.getElem?_eq_some_iff.1 (h.rest.fo _ o ho)).1; omega) (fun e => by have := (h.rest.rp.lt _ e).2; omega) (fun e => by have := (h.rest.rm.lt _ e).2; omega) (fun e => by have := (h.rest.re.lt _ e).2; omega)
    (fun hc e => by have := (h.rest.tc hc).2.2.1; omega) (fun hc e => by have := (h.rest.tb hc).1; omega) (.slice (some ⟨w.heap.size, 0, none⟩) M M)
  have hh : ((w.alloc (.cells (madeCells #[.int .i64 0] M) 3)).setCell ⟨L.K, 24, none⟩ (.slice (some ⟨w.heap.size, 0, none⟩) M M)).heap[w.heap.size]? = some (.cells (madeCells #[.int .i64 0] M) 3 (0, 0)) :=
    (Below.heap_setCell _ _ _ _ (by show w.heap.size ≠ L.K; omega)).trans (heap_alloc_new w _)
  have h3 := h2.setRc G ⟨by show w.heap.size < _; rw [World.size_setCell, World.size_alloc]; omega, by rw [hM], _, hh, by rw [size_madeCells]; exact hM, made_one _ _ _ (by omega)⟩ ⟨recol_new, .inl hz⟩
  rw [set_comm _ _ _ _ _ _ (by decide)] at h3
  exact ⟨_, h3⟩

set_option maxRecDepth 100000 in
set_option maxHeartbeats 4000000 in
theorem replay_any {L : Lay} (G : Good L) {wait : Nat → Int} (R : Root L wait) (hw0 : ∀ u, L.n ≤ u → wait u = 0 ∨ True) (hwb : ∀ u, u < L.n → -128 ≤ wait u ∧ wait u ≤ 127) (hcn : ∀ g, g < L.s → L.cnt g = Cn L.rd L.m g) (hadd0 : ∀ v, L.n ≤ v → L.add v = 0)
    {st : St} {w : World} (h : Sta L st w) (hrc : st.rc = false) (htr0 : st.tr = []) (hmk : st.mks = []) (hem : st.ems = []) (hpc : st.pc = 0) (htk : st.taken ≤ 100000)
    (k g cap : Nat) (hvp : st.vp = .slice (some ⟨g, 0, none⟩) (k + 1) cap) (hk : k + 1 = st.pl.length) (hk6 : k ≤ 6) (hnd : st.pl.Nodup) (hpm : ∀ v ∈ st.pl, v < L.m) :
    Calls Ybad.prog 16 #[.pointer (some ⟨L.K, 0, none⟩), .slice (some ⟨g, 0, none⟩) k cap] w fun e w' => e = .returned (.tuple #[]) ∧ ∃ st', Sta L st' w' ∧ Inv L.add L.rd wait L.m L.s (st.pl.take k) st'.ps ∧ st'.pl = st.pl.take k ∧ st'.rc = true ∧ st'.mks.length = k ∧ st'.ems.length = k := by
  have hn : L.n ≤ 9 := by have := G.m6; have := G.s3; unfold Lay.n; omega
  have hs3 := G.s3
  have hm6 := G.m6
  obtain ⟨bQ, cq, bZ, cz, hvq, hvz, lQ, sQ, lZ, sZ, r1, r2, r3, r4, r5⟩ := R.all
  have HS : Hid (Sta L st w) := h
  obtain ⟨curB, hB1, hB2⟩ := kind_cells ((h.core.fix.knd L.bB G.Bl).trans r4)
  obtain ⟨curW, hW1, hW2⟩ := kind_cells ((h.core.fix.knd L.bW G.Wl).trans r5)
  have k4 := h.core.fix.k G (o := 4) rfl
  have k18 := h.core.fix.k G (o := 18) rfl
  rw [hvq] at k18
  have HB1 : Hid (w.heap[L.bB]? = some (.cells curB 49 (0, 0)) ∧ curB.size = 2 * L.n + 1) := ⟨hB1, hB2⟩
  have HW1 : Hid (w.heap[L.bW]? = some (.cells curW 3 (0, 0)) ∧ curW.size = L.n) := ⟨hW1, hW2⟩
  -- what is copied
  obtain ⟨cs, hcs1, hcs2, hcs3⟩ : ∃ cs : List Value, cs.length = 2 * L.n + 1 ∧ (∀ (j : Nat) v, cs[j]? = some v → L.w1.cell? ⟨bQ, j, none⟩ = some v) ∧ (∀ v ∈ cs, v.oneCell' = true) := by
    refine ⟨(List.range (2 * L.n + 1)).map (fun o => (L.w1.cell? ⟨bQ, o, none⟩).getD (.bool false)), by simp, fun j v hj => ?_, fun v hv => ?_⟩
    · rw [List.getElem?_map] at hj
      by_cases hj2 : j < 2 * L.n + 1
      · rw [List.getElem?_range hj2] at hj
        simp only [Option.map_some, Option.some.injEq] at hj
        rw [← hj]
        by_cases hj3 : j = 2 * L.n
        · subst hj3; rw [r2]; rfl
        · obtain ⟨x, hx, _⟩ := r1 j (by omega)
          rw [hx]; rfl
      · rw [List.getElem?_eq_none (by simpa using hj2)] at hj
        cases hj
    · obtain ⟨o, ho, rfl⟩ := List.mem_map.1 hv
      have ho' := List.mem_range.1 ho
      by_cases hj3 : o = 2 * L.n
      · subst hj3; rw [r2]; rfl
      · obtain ⟨x, hx, _⟩ := r1 o (by omega)
        rw [hx]; rfl
  obtain ⟨ds, hds1, hds2, hds3⟩ : ∃ cs : List Value, cs.length = L.n ∧ (∀ (j : Nat) v, cs[j]? = some v → L.w1.cell? ⟨bZ, j, none⟩ = some v) ∧ (∀ v ∈ cs, v.oneCell' = true) := by
    refine ⟨(List.range L.n).map (fun o => (L.w1.cell? ⟨bZ, o, none⟩).getD (.bool false)), by simp, fun j v hj => ?_, fun v hv => ?_⟩
    · rw [List.getElem?_map] at hj
      by_cases hj2 : j < L.n
      · rw [List.getElem?_range hj2] at hj
        simp only [Option.map_some, Option.some.injEq] at hj
        rw [← hj, r3 j hj2]
        rfl
      · rw [List.getElem?_eq_none (by simpa using hj2)] at hj
        cases hj
    · obtain ⟨o, ho, rfl⟩ := List.mem_map.1 hv
      rw [r3 o (List.mem_range.1 ho)]
      rfl
  -- the state behind the two copies
  have HC1 : Hid (∀ w2, w2.heap[L.bB]? = some (.cells cs.toArray 49 (0, 0)) → But L.bB w w2 → Sta L { st with live := 2 ^ L.n - 1 } w2) := fun w2 q1 q2 => by
    refine h.resetBits G q1 q2 (fun o ho => ?_) ?_ (by rw [r4, List.size_toArray, hcs1])
    · by_cases ho2 : o < 2 * L.n
      · obtain ⟨x, hx1, hx2⟩ := r1 o ho2
        have hl : o < cs.length := by omega
        have := hcs2 o cs[o] (by simp [hl])
        rw [hx1] at this
        rw [hx2]
        simp [hl, ← this]
      · have hl : ¬ o < cs.length := by omega
        obtain ⟨cur, hc1, hc2⟩ := kind_cells r4
        rw [List.getElem?_toArray, List.getElem?_eq_none (by omega)]
        symm
        simp [World.cell?, hc1]
        omega
    · have hl : 2 * L.n < cs.length := by omega
      have := hcs2 (2 * L.n) cs[2 * L.n] (by simp [hl])
      rw [r2] at this
      rw [List.getElem?_toArray]
      simp only [List.getElem?_eq_getElem hl]
      exact this.symm
  have HC2 : Hid (∀ (s : St) w2 w3, Sta L s w2 → w3.heap[L.bW]? = some (.cells ds.toArray 3 (0, 0)) → But L.bW w2 w3 → Sta L { s with wt := wait } w3) := fun s w2 w3 q0 q1 q2 => by
    refine q0.resetWait G q1 q2 (fun u hu => ?_) (by rw [r5, List.size_toArray, hds1])
    have hl : u < ds.length := by omega
    have := hds2 u ds[u] (by simp [hl])
    rw [r3 u hu] at this
    rw [List.getElem?_toArray]
    simp only [List.getElem?_eq_getElem hl]
    exact this.symm
  have HCS : Hid (cs.length = 2 * L.n + 1 ∧ (∀ v ∈ cs, v.oneCell' = true) ∧ ∀ W, Fix L W → ∀ (j : Nat) v, cs[j]? = some v → W.cell? ((⟨bQ, 0, none⟩ : Addr).add j) = some v) := ⟨hcs1, hcs3, fun W hW j v hv => by rw [Addr.add_lit, Nat.zero_add, hW.plain G lQ sQ]; exact hcs2 j v hv⟩
  have HDS : Hid (ds.length = L.n ∧ (∀ v ∈ ds, v.oneCell' = true) ∧ ∀ W, Fix L W → ∀ (j : Nat) v, ds[j]? = some v → W.cell? ((⟨bZ, 0, none⟩ : Addr).add j) = some v) := ⟨hds1, hds3, fun W hW j v hv => by rw [Addr.add_lit, Nat.zero_add, hW.plain G lZ sZ]; exact hds2 j v hv⟩
  have HWB : Hid (∀ u, u < L.n → -128 ≤ wait u ∧ wait u ≤ 127) := hwb
  have HCN : Hid (∀ g, g < L.s → L.cnt g = Cn L.rd L.m g) := hcn
  have HVZ : Hid (L.vz = .slice (some ⟨bZ, 0, none⟩) L.n cz) := hvz
  have HPL : Hid (k + 1 = st.pl.length ∧ st.pl.Nodup ∧ (∀ v ∈ st.pl, v < L.m) ∧ st.vp = .slice (some ⟨g, 0, none⟩) (k + 1) cap) := ⟨hk, hnd, hpm, hvp⟩
  have HADD : Hid (∀ v, L.n ≤ v → L.add v = 0) := hadd0
  have HF0 : Hid (st.rc = false ∧ st.tr = [] ∧ st.mks = [] ∧ st.ems = [] ∧ st.pc = 0) := ⟨hrc, htr0, hmk, hem, hpc⟩
  obtain ⟨M, hM⟩ : ∃ M, 2 * L.n + 1 = M := ⟨_, rfl⟩
  have HM : Hid (2 * L.n + 1 = M) := hM
  rw [hM] at k4 k18
  have hM19 : M ≤ 19 := by omega
  clear h R hw0 hwb hcn hadd0 hrc htr0 hmk hem hpc hvq hvz lQ sQ lZ sZ r1 r2 r3 r4 r5 hB1 hB2 hW1 hW2 hcs1 hcs2 hcs3 hds1 hds2 hds3 hvp hk hnd hpm hM
  go_enter Ybad.func16, Ybad.ntmps16
  go_wp2
  refine wp_region_L (fun w' => w'.cell? ⟨L.K, 4, none⟩ = some (.slice (some ⟨L.bB, 0, none⟩) M M) ∧ w'.cell? ⟨L.K, 18, none⟩ = some (.slice (some ⟨bQ, 0, none⟩) M cq)) 8 9 (by kernel_rfl) (by kernel_rfl) ?_
  have HSS : Hid ((fun w' : World => w'.cell? ⟨L.K, 4, none⟩ = some (.slice (some ⟨L.bB, 0, none⟩) M M) ∧ w'.cell? ⟨L.K, 18, none⟩ = some (.slice (some ⟨bQ, 0, none⟩) M cq)) w.drew) := ⟨k4, k18⟩
  refine wpU_take (i := 0) (v := ?_) rfl (by kernel_rfl) (by kernel_rfl) (by kernel_rfl) (by kernel_rfl) (fun _ _ _ h => h) (by rfl) ?_ HSS.out ?_
  rotate_left
  · (intro wS hwS; (try dsimp only at hwS); go_simp; try with_reducible rfl)
  simp only [Act.put, List.getElem_toArray, List.getElem_cons_zero, List.getElem_cons_succ, List.setIfInBounds_toArray, List.set_cons_zero, List.set_cons_succ]
  refine wpU_take (i := 1) (v := ?_) rfl (by kernel_rfl) (by kernel_rfl) (by kernel_rfl) (by kernel_rfl) (fun _ _ _ h => h) (by rfl) ?_ HSS.out ?_
  rotate_left
  · (intro wS hwS; (try dsimp only at hwS); go_simp; try with_reducible rfl)
  simp only [Act.put, List.getElem_toArray, List.getElem_cons_zero, List.getElem_cons_succ, List.setIfInBounds_toArray, List.set_cons_zero, List.set_cons_succ]
  refine wpU_take (i := 2) (v := ?_) rfl (by kernel_rfl) (by kernel_rfl) (by kernel_rfl) (by kernel_rfl) (fun _ _ _ h => h) (by rfl) ?_ HSS.out ?_
  rotate_left
  · (intro wS hwS; (try dsimp only at hwS); go_simp; try with_reducible rfl)
  simp only [Act.put, List.getElem_toArray, List.getElem_cons_zero, List.getElem_cons_succ, List.setIfInBounds_toArray, List.set_cons_zero, List.set_cons_succ]
  refine wpU_take (i := 3) (v := ?_) rfl (by kernel_rfl) (by kernel_rfl) (by kernel_rfl) (by kernel_rfl) (fun _ _ _ h => h) (by rfl) ?_ HSS.out ?_
  rotate_left
  · (intro wS hwS; (try dsimp only at hwS); go_simp; try with_reducible rfl)
  simp only [Act.put, List.getElem_toArray, List.getElem_cons_zero, List.getElem_cons_succ, List.setIfInBounds_toArray, List.set_cons_zero, List.set_cons_succ]
  refine wpU_take (i := 4) (v := ?_) rfl (by kernel_rfl) (by kernel_rfl) (by kernel_rfl) (by kernel_rfl) (fun _ _ _ h => h) (by rfl) ?_ HSS.out ?_
  rotate_left
  · (intro wS hwS; (try dsimp only at hwS); go_simp; try with_reducible rfl)
  simp only [Act.put, List.getElem_toArray, List.getElem_cons_zero, List.getElem_cons_succ, List.setIfInBounds_toArray, List.set_cons_zero, List.set_cons_succ]
  refine wpU_take (i := 5) (v := ?_) rfl (by kernel_rfl) (by kernel_rfl) (by kernel_rfl) (by kernel_rfl) (fun _ _ _ h => h) (by rfl) ?_ HSS.out ?_
  rotate_left
  · (intro wS hwS; (try dsimp only at hwS); go_simp; try with_reducible rfl)
  simp only [Act.put, List.getElem_toArray, List.getElem_cons_zero, List.getElem_cons_succ, List.setIfInBounds_toArray, List.set_cons_zero, List.set_cons_succ]
  refine wpU_take (i := 6) (v := ?_) rfl (by kernel_rfl) (by kernel_rfl) (by kernel_rfl) (by kernel_rfl) (fun _ _ _ h => h) (by rfl) ?_ HSS.out ?_
  rotate_left
  · (intro wS hwS; (try dsimp only at hwS); go_simp; try with_reducible rfl)
  simp only [Act.put, List.getElem_toArray, List.getElem_cons_zero, List.getElem_cons_succ, List.setIfInBounds_toArray, List.set_cons_zero, List.set_cons_succ]
  refine wpU_take (i := 7) (v := ?_) rfl (by kernel_rfl) (by kernel_rfl) (by kernel_rfl) (by kernel_rfl) (fun _ _ _ h => h) (by rfl) ?_ HSS.out ?_
  rotate_left
  · (intro wS hwS; (try dsimp only at hwS); go_simp; try with_reducible rfl)
  simp only [Act.put, List.getElem_toArray, List.getElem_cons_zero, List.getElem_cons_succ, List.setIfInBounds_toArray, List.set_cons_zero, List.set_cons_succ]
  refine wpL_one (i := 8) (by kernel_rfl) rfl (fun K hK => ?_)
  refine step_copy_but (by rfl) (.tmp 10) (.tmp 14) 23 23 (by rfl) 49 Ybad.underlying23 Ybad.size49 L.bB M M ⟨bQ, 0, none⟩ cq (by rfl) (by rfl) curB 49 HB1.out.1 cs (HCS.out.1.trans HM.out) (fun j v hv => HCS.out.2.2 _ (HS.out.core.fix.drewN 1) j v hv) (HB1.out.2.trans HM.out) HCS.out.2.1 ?_
  intro w2 hw2 hbut2
  refine hK.out _ _ (fun h => absurd rfl h) ?_
  clear hK K
  refine wpL_done (by kernel_rfl) ?_ _
  have hS2 : Sta L { st with live := 2 ^ L.n - 1 } w2 := HC1.out w2 hw2 ⟨hbut2.os, hbut2.tape, hbut2.output, hbut2.size, hbut2.other⟩
  have hWW : w2.heap[L.bW]? = some (.cells curW 3 (0, 0)) := (hbut2.other _ (by have := G.BW; omega)).trans HW1.out.1
  have k9 := hS2.core.fix.k G (o := 9) rfl
  have k19 := hS2.core.fix.k G (o := 19) rfl
  rw [HVZ.out] at k19
  obtain ⟨st2, hst2, he2⟩ : ∃ s : St, Sta L s w2 ∧ s = { st with live := 2 ^ L.n - 1 } := ⟨_, hS2, rfl⟩
  have HS2 : Hid (Sta L st2 w2) := hst2
  have HE2 : Hid (st2 = { st with live := 2 ^ L.n - 1 }) := he2
  have HWW : Hid (w2.heap[L.bW]? = some (.cells curW 3 (0, 0))) := hWW
  clear hS2 hst2 he2 hw2 hbut2 hWW k4 k18 HSS
  go_wp2
  refine wp_region_L (fun w' => w'.cell? ⟨L.K, 9, none⟩ = some (.slice (some ⟨L.bW, 0, none⟩) L.n L.n) ∧ w'.cell? ⟨L.K, 19, none⟩ = some (.slice (some ⟨bZ, 0, none⟩) L.n cz)) 8 9 (by kernel_rfl) (by kernel_rfl) ?_
  have HSS : Hid ((fun w' : World => w'.cell? ⟨L.K, 9, none⟩ = some (.slice (some ⟨L.bW, 0, none⟩) L.n L.n) ∧ w'.cell? ⟨L.K, 19, none⟩ = some (.slice (some ⟨bZ, 0, none⟩) L.n cz)) w2.drew) := ⟨k9, k19⟩
  refine wpU_take (i := 0) (v := ?_) rfl (by kernel_rfl) (by kernel_rfl) (by kernel_rfl) (by kernel_rfl) (fun _ _ _ h => h) (by rfl) ?_ HSS.out ?_
  rotate_left
  · (intro wS hwS; (try dsimp only at hwS); go_simp; try with_reducible rfl)
  simp only [Act.put, List.getElem_toArray, List.getElem_cons_zero, List.getElem_cons_succ, List.setIfInBounds_toArray, List.set_cons_zero, List.set_cons_succ]
  refine wpU_take (i := 1) (v := ?_) rfl (by kernel_rfl) (by kernel_rfl) (by kernel_rfl) (by kernel_rfl) (fun _ _ _ h => h) (by rfl) ?_ HSS.out ?_
  rotate_left
  · (intro wS hwS; (try dsimp only at hwS); go_simp; try with_reducible rfl)
  simp only [Act.put, List.getElem_toArray, List.getElem_cons_zero, List.getElem_cons_succ, List.setIfInBounds_toArray, List.set_cons_zero, List.set_cons_succ]
  refine wpU_take (i := 2) (v := ?_) rfl (by kernel_rfl) (by kernel_rfl) (by kernel_rfl) (by kernel_rfl) (fun _ _ _ h => h) (by rfl) ?_ HSS.out ?_
  rotate_left
  · (intro wS hwS; (try dsimp only at hwS); go_simp; try with_reducible rfl)
  simp only [Act.put, List.getElem_toArray, List.getElem_cons_zero, List.getElem_cons_succ, List.setIfInBounds_toArray, List.set_cons_zero, List.set_cons_succ]
  refine wpU_take (i := 3) (v := ?_) rfl (by kernel_rfl) (by kernel_rfl) (by kernel_rfl) (by kernel_rfl) (fun _ _ _ h => h) (by rfl) ?_ HSS.out ?_
  rotate_left
  · (intro wS hwS; (try dsimp only at hwS); go_simp; try with_reducible rfl)
  simp only [Act.put, List.getElem_toArray, List.getElem_cons_zero, List.getElem_cons_succ, List.setIfInBounds_toArray, List.set_cons_zero, List.set_cons_succ]
  refine wpU_take (i := 4) (v := ?_) rfl (by kernel_rfl) (by kernel_rfl) (by kernel_rfl) (by kernel_rfl) (fun _ _ _ h => h) (by rfl) ?_ HSS.out ?_
  rotate_left
  · (intro wS hwS; (try dsimp only at hwS); go_simp; try with_reducible rfl)
  simp only [Act.put, List.getElem_toArray, List.getElem_cons_zero, List.getElem_cons_succ, List.setIfInBounds_toArray, List.set_cons_zero, List.set_cons_succ]
  refine wpU_take (i := 5) (v := ?_) rfl (by kernel_rfl) (by kernel_rfl) (by kernel_rfl) (by kernel_rfl) (fun _ _ _ h => h) (by rfl) ?_ HSS.out ?_
  rotate_left
  · (intro wS hwS; (try dsimp only at hwS); go_simp; try with_reducible rfl)
  simp only [Act.put, List.getElem_toArray, List.getElem_cons_zero, List.getElem_cons_succ, List.setIfInBounds_toArray, List.set_cons_zero, List.set_cons_succ]
  refine wpU_take (i := 6) (v := ?_) rfl (by kernel_rfl) (by kernel_rfl) (by kernel_rfl) (by kernel_rfl) (fun _ _ _ h => h) (by rfl) ?_ HSS.out ?_
  rotate_left
  · (intro wS hwS; (try dsimp only at hwS); go_simp; try with_reducible rfl)
  simp only [Act.put, List.getElem_toArray, List.getElem_cons_zero, List.getElem_cons_succ, List.setIfInBounds_toArray, List.set_cons_zero, List.set_cons_succ]
  refine wpU_take (i := 7) (v := ?_) rfl (by kernel_rfl) (by kernel_rfl) (by kernel_rfl) (by kernel_rfl) (fun _ _ _ h => h) (by rfl) ?_ HSS.out ?_
  rotate_left
  · (intro wS hwS; (try dsimp only at hwS); go_simp; try with_reducible rfl)
  simp only [Act.put, List.getElem_toArray, List.getElem_cons_zero, List.getElem_cons_succ, List.setIfInBounds_toArray, List.set_cons_zero, List.set_cons_succ]
  refine wpL_one (i := 8) (by kernel_rfl) rfl (fun K hK => ?_)
  refine step_copy_but (by rfl) (.tmp 19) (.tmp 23) 28 28 (by rfl) 3 Ybad.underlying28 Ybad.size3 L.bW L.n L.n ⟨bZ, 0, none⟩ cz (by rfl) (by rfl) curW 3 HWW.out ds HDS.out.1 (fun j v hv => HDS.out.2.2 _ (HS2.out.core.fix.drewN 1) j v hv) HW1.out.2 HDS.out.2.1 ?_
  intro w3 hw3 hbut3
  refine hK.out _ _ (fun h => absurd rfl h) ?_
  clear hK K
  refine wpL_done (by kernel_rfl) ?_ _
  have hS3 : Sta L { st2 with wt := wait } w3 := HC2.out st2 _ w3 (HS2.out.drewN 1) hw3 hbut3
  obtain ⟨st3, hst3, he3⟩ : ∃ s : St, Sta L s w3 ∧ s = { st2 with wt := wait } := ⟨_, hS3, rfl⟩
  have HS3 : Hid (Sta L st3 w3) := hst3
  have HE3 : Hid (st3 = { st2 with wt := wait }) := he3
  have k10 := hst3.core.fix.k G (o := 10) rfl
  clear hS3 hst3 he3 hw3 hbut3 k9 k19 HSS
  go_wp2
  go_loopw [30] (fun q wr => ∃ (j : Nat) (f : Nat → Int), j ≤ L.s ∧ q = .int .i64 j ∧ Sta L { st3 with lf := f } wr ∧ ∀ i, i < j → f i = (L.cnt i : Int)) (fun q _ => L.s - (intOf q).toNat)
  case atStart => exact ⟨0, st3.lf, Nat.zero_le _, rfl, HS3.out, fun i hi => by omega⟩
  case round =>
    obtain ⟨j, f, hj, rfl, hSj, hfj⟩ := hrel
    have HSJ : Hid (Sta L { st3 with lf := f } wr) := hSj
    have HFJ : Hid (∀ i, i < j → f i = (L.cnt i : Int)) := hfj
    by_cases hlt : j < L.s
    · have c10 := hSj.core.fix.k G (o := 10) rfl
      have cr := hSj.core.fix.readersAt G hlt
      have cl := hSj.core.lf j hlt
      have fl := hSj.core.fix.fr G (b := L.bG) (by simp [Lay.Spec]) (4 * j + 2)
      rw [Nat.mul_comm] at cr cl fl
      clear hSj hfj
      go_wp2
      go_region
      go_wp2
      go_roundw
      case rel =>
        have hfin := (HSJ.out.drewN 1).setLeft G j hlt (L.cnt j : Int)
        rw [Nat.mul_comm] at hfin
        refine ⟨j + 1, _, by omega, by go_num, hfin, fun i hi => ?_⟩
        show put f j (L.cnt j : Int) i = _
        unfold put
        split
        · rename_i e; rw [e]
        · exact HFJ.out i (by omega)
      case measure => simp [intOf]; omega
    · obtain rfl : j = L.s := by omega
      obtain ⟨w4, hw4⟩ : ∃ x, x = wr := ⟨_, rfl⟩
      rw [← hw4] at HSJ hSj ⊢
      have e4 := HE3.out
      have e2 := HE2.out
      have f0 := HF0.out
      have k4 := hSj.core.fix.k G (o := 4) rfl
      rw [HM.out] at k4
      have k20 := hSj.core.kd 20 _ rfl
      have k24 := hSj.core.kd 24 _ rfl
      have f20 := hSj.fK G 20
      have f24 := hSj.fK G 24
      have lK4 : L.K < w4.heap.size := Nat.lt_of_lt_of_le G.Kl hSj.core.fix.size
      have m28 := fun w => run_make_row' (P := Ybad.prog) 28 3 (.int .i64 0) 8 Ybad.underlying28 Ybad.info3 rfl .i64 .i64 M (by omega) (by omega) w
      obtain ⟨col5, hS5⟩ := hSj.startRec G (by show st3.rc = false; rw [e4, e2]; exact f0.1) HM.out.symm
      obtain ⟨st5, hst5, he5⟩ : ∃ s : St, Sta L s _ ∧ s = { st3 with lf := f, rc := true, vs := .slice (some ⟨w4.heap.size, 0, none⟩) M M, bV := w4.heap.size, sv := 0, col := col5 } := ⟨_, hS5, rfl⟩
      have HS5 : Hid (Sta L st5 _) := hst5
      have HE5 : Hid (st5 = { st3 with lf := f, rc := true, vs := .slice (some ⟨w4.heap.size, 0, none⟩) M M, bV := w4.heap.size, sv := 0, col := col5 }) := he5
      clear hSj hw4 hfj hS5 hst5 he5 e4 e2 f0 k10
      go_wp2
      go_region
      obtain ⟨w5, hw5⟩ : ∃ x, x = (((w4.setCell ⟨L.K, 20, none⟩ (.bool true)).setCell ⟨L.K, 24, none⟩ (.slice (some ⟨w4.heap.size, 0, none⟩) M M)).alloc (.cells (madeCells #[.int .i64 0] M) 3)).drew := ⟨_, rfl⟩
      rw [← hw5]
      have hS5 : Sta L st5 w5 := by
        have h9 := HS5.out.drewN 1
        rw [alloc_set _ _ _ _ _ lK4, alloc_set _ _ _ _ _ (by rw [World.size_setCell]; exact lK4)] at h9
        rw [hw5]
        exact h9
      have k37 := hS5.core.fix.k G (o := 37) rfl
      have k17 := hS5.core.kd 17 _ rfl
      have f17 := hS5.fK G 17
      have hF := hS5.core.fix
      obtain ⟨p1, p2, p3, p4⟩ := HPL.out
      have he : st5.vp = st.vp ∧ st5.pl = st.pl := by rw [HE5.out, HE3.out, HE2.out]; exact ⟨rfl, rfl⟩
      rw [he.1, p4] at k17
      have hrp := hS5.rest.rp
      have hgl : g < w5.heap.size := (hrp.lt g (by rw [he.1, p4]; rfl)).2
      have hcells : ∀ (j : Nat) u, ((st.pl.take k).map encI)[j]? = some u → w5.cell? ⟨g, j, none⟩ = some u := fun j u hu => by
        have h9 := hrp.cells (g := g) (by rw [he.1, p4]; rfl) j u (by
          rw [he.2]
          have hj : j < k := by
            have := (List.getElem?_eq_some_iff.1 hu).1
            simp at this
            omega
          rw [List.map_take, List.getElem?_take, if_pos hj] at hu
          exact hu)
        rw [Addr.add_lit, Nat.zero_add] at h9
        exact h9
      have HCL : Hid (Calls Ybad.prog 11 #[.slice (some ⟨g, 0, none⟩) k cap] w5 fun e w' => ∃ v, e = .returned v ∧ w'.ownsRow w5.heap.size 3 1 v k ((st.pl.take k).map encI) ∧ v ≠ .slice none 0 0 ∧ Below w5.heap.size w5 w') :=
        clone3_any g k cap _ (by simp; omega) (by omega) (by intro u hu; obtain ⟨x, _, rfl⟩ := List.mem_map.1 hu; rfl) w5 hgl hcells
      have HFG : Hid (Calls Ybad.prog 18 #[.pointer (some ⟨L.K, 0, none⟩), .int .i64 0] w5 fun e w' => e = .returned (.tuple #[]) ∧ w' = w5) := forget_any G w5 hF
      have HS5' : Hid (Sta L st5 w5) := hS5
      have HEV : Hid (st5.vp = st.vp ∧ st5.pl = st.pl) := he
      have lK5 : L.K < w5.heap.size := Nat.lt_of_lt_of_le G.Kl hF.size
      clear hS5 hF hrp hcells hw5 p1 p2 p3 p4 he k4 k20 k24 f20 f24 m28
      go_wp2_with (first | (go_at_call 18; refine HFG.out.mono ?_; rintro _ wf ⟨rfl, hwf⟩; rw [hwf]; clear hwf) | (go_at_call 11; refine HCL.out.mono ?_; rintro _ w6 ⟨v6, rfl, hown6, hv6, hB6⟩; obtain ⟨g6, cap6, cur6, rfl, hb6, hh6, hk6', htk6⟩ := row_form hown6 hv6; have HH6 : Hid (w6.heap[g6]? = some (.cells cur6 3 (0, 0)) ∧ w5.heap.size ≤ g6 ∧ cur6.toList.take k = (st.pl.take k).map encI) := ⟨hh6, hb6, htk6⟩; clear hh6 hb6 htk6; have HB6 : Hid _ := hB6; have c17 := (hB6.cell (p := ⟨L.K, 17, none⟩) lK5).trans k17; have g17 := (hB6.frozen (p := ⟨L.K, 17, none⟩) lK5).trans f17; clear hown6 hv6 hB6))
      have hS6 := HS5'.out.keepNew G HB6.out g6 cur6 3 HH6.out.1 HH6.out.2.1
      obtain ⟨p1, p2, p3, p4⟩ := HPL.out
      have hS7 := hS6.cutP (k := 0) G (by show st5.vp = _; rw [HEV.out.1]; exact p4) (Nat.zero_le _)
      obtain ⟨w7, hw7⟩ : ∃ x, x = w6.setCell ⟨L.K, 17, none⟩ (.slice (some ⟨g, 0, none⟩) 0 cap) := ⟨_, rfl⟩
      rw [← hw7] at hS7 ⊢
      obtain ⟨st7, hst7, q1, q2, q3, q4, q5, q6, q7, q8, q9, q10, q11⟩ : ∃ s : St, Sta L s w7 ∧ s.ps = ⟨2 ^ L.n - 1, wait, f⟩ ∧ s.pl = [] ∧ s.rc = true ∧ s.mks = [] ∧ s.ems = [] ∧ s.pc = 0 ∧ s.sv = 0 ∧ s.tr = [] ∧ s.taken ≤ 100000 ∧ s.fo g6 = some (cur6, 3) ∧ True := by
        refine ⟨_, hS7, ?_, rfl, ?_, ?_, ?_, ?_, ?_, ?_, ?_, ?_, trivial⟩
        · show (⟨st5.live, st5.wt, st5.lf⟩ : PS) = _
          rw [HE5.out, HE3.out, HE2.out]
        · show st5.rc = true
          rw [HE5.out]
        · show st5.mks = []
          rw [HE5.out, HE3.out, HE2.out]; exact HF0.out.2.2.1
        · show st5.ems = []
          rw [HE5.out, HE3.out, HE2.out]; exact HF0.out.2.2.2.1
        · show st5.pc = 0
          rw [HE5.out, HE3.out, HE2.out]; exact HF0.out.2.2.2.2
        · show st5.sv = 0
          rw [HE5.out]
        · show st5.tr = []
          rw [HE5.out, HE3.out, HE2.out]; exact HF0.out.2.1
        · show st5.taken ≤ 100000
          rw [HE5.out, HE3.out, HE2.out]; exact htk
        · show (if g6 = g6 then some (cur6, 3) else st5.fo g6) = _
          rw [if_pos rfl]
      have hInv0 : Inv L.add L.rd wait L.m L.s [] st7.ps := by
        rw [q1]
        exact Inv.start (by unfold Lay.n at hn; exact hn) rfl (fun u => rfl) HADD.out (fun g hg => by show f g = _; rw [HFJ.out g hg, HCN.out g hg])
      have hnd7 : ∀ j, j < k → ∃ i, st.pl[j]? = some i ∧ i < L.m ∧ i ∉ st.pl.take j ∧ st.pl.take (j + 1) = st.pl.take j ++ [i] := fun j hj => by
        have hl : j < st.pl.length := by omega
        refine ⟨st.pl[j], by simp [hl], p3 _ (List.getElem_mem hl), fun hin => ?_, List.take_succ_eq_append_getElem hl⟩
        have hn2 : (st.pl.take (j + 1)).Nodup := List.Nodup.sublist (List.take_sublist _ _) p2
        rw [List.take_succ_eq_append_getElem hl, List.nodup_append] at hn2
        exact hn2.2.2 _ hin _ (by simp) rfl
      have HND7 : Hid _ := hnd7
      have HI0 : Hid (Inv L.add L.rd wait L.m L.s [] st7.ps) := hInv0
      have HQ7 : Hid (Sta L st7 w7 ∧ st7.pl = [] ∧ st7.rc = true ∧ st7.mks = [] ∧ st7.ems = [] ∧ st7.pc = 0 ∧ st7.sv = 0 ∧ st7.tr = [] ∧ st7.taken ≤ 100000 ∧ st7.fo g6 = some (cur6, 3)) := ⟨hst7, q2, q3, q4, q5, q6, q7, q8, q9, q10⟩
      have HR6 : Hid (∀ (s : St) (W : World), Sta L s W → s.fo g6 = some (cur6, 3) → ∀ j, j < k → ∀ i, st.pl[j]? = some i → W.cell? ⟨g6, j, none⟩ = some (.int .i64 (i : Nat))) := fun s W hs hfo j hj i hi => by
        have h9 := hs.rest.fo g6 _ hfo
        refine cell_in h9 ?_
        have h8 : (cur6.toList.take k)[j]? = some (encI i) := by
          rw [HH6.out.2.2, List.map_take, List.getElem?_take, if_pos hj, List.getElem?_map, hi]
          rfl
        rw [List.getElem?_take, if_pos hj] at h8
        rw [← Array.getElem?_toList]
        exact h8
      clear hS6 hS7 hw7 hst7 q1 q2 q3 q4 q5 q6 q7 q8 q9 q10 q11 hInv0 hnd7 p1 p2 p3 p4 c17 g17 k17 f17 k37
      go_wp2
      go_loopw [79] (fun q wr => ∃ (j : Nat) (st' : St), j ≤ k ∧ q = .int .i64 j ∧ Sta L st' wr ∧ Inv L.add L.rd wait L.m L.s (st.pl.take j) st'.ps ∧ st'.pl = st.pl.take j ∧ st'.rc = true ∧ st'.mks.length = j ∧ st'.ems.length = j ∧ st'.pc = j ∧ st'.sv ≤ j ∧ st'.tr.length = j ∧ st'.taken ≤ 100000 + 1000 * j ∧ st'.fo g6 = some (cur6, 3)) (fun q _ => k - (intOf q).toNat)
      case atStart =>
        obtain ⟨a1, a2, a3, a4, a5, a6, a7, a8, a9, a10⟩ := HQ7.out
        exact ⟨0, st7, Nat.zero_le _, rfl, a1, HI0.out, a2, a3, by rw [a4]; rfl, by rw [a5]; rfl, a6, by omega, by rw [a8]; rfl, by omega, a10⟩
      case round =>
        obtain ⟨j, st', hj, rfl, hS', hI', b1, b2, b3, b4, b5, b6, b7, b8, b9⟩ := hrel
        by_cases hlt2 : j < k
        · obtain ⟨i, hi, him, hni, htk'⟩ := HND7.out j hlt2
          have cij := HR6.out st' wr hS' b9 j hlt2 i hi
          have h512 : st'.live < 512 := by
            have h9 : st'.live < 2 ^ (L.m + L.s) := hI'.lt
            exact Nat.lt_of_lt_of_le h9 (Nat.pow_le_pow_right (n := 2) (by omega) hn)
          have hwtb : ∀ u, u < L.n → -900 ≤ st'.wt u ∧ st'.wt u ≤ 900 := fun u hu => by
            have h9 : st'.wt u = Wt L.add wait st'.live u := hI'.wt u
            have h8 := HWB.out u hu
            have h7 := sumW_bound (f := fun v => if st'.live.testBit v then 0 else bit (L.add v) u) (fun i => by
              split
              · omega
              · exact bit_01 _ _) 9
            unfold Wt at h9
            omega
          have hlfb : ∀ g, g < L.s → -900 ≤ st'.lf g ∧ st'.lf g ≤ 900 := fun g hg => by
            have h9 : st'.lf g = (Cn L.rd L.m g : Int) - (Pn L.rd L.m (st.pl.take j) g : Int) := hI'.lf g hg
            have h8 : Cn L.rd L.m g ≤ L.m := cnt_bound _ _
            have h7 : Pn L.rd L.m (st.pl.take j) g ≤ L.m := cnt_bound _ _
            omega
          have HPLC : Hid (Calls Ybad.prog 7 #[.pointer (some ⟨L.K, 0, none⟩), .int .i64 i] wr fun e w' => e = .returned (.bool true) ∧ ∃ st'', Sta L st'' w' ∧ Placing L i (L.rd i).length st' st'') :=
            place_any G hS' (by omega) h512 (by omega) (by omega) (by omega) hwtb hlfb (by rw [b1]; simp; omega) (by omega) (by omega) i him
          have HST : Hid (Inv L.add L.rd wait L.m L.s (st.pl.take j) st'.ps ∧ st'.pl = st.pl.take j ∧ st'.rc = true ∧ st'.mks.length = j ∧ st'.ems.length = j ∧ st'.pc = j ∧ st'.sv ≤ j ∧ st'.tr.length = j ∧ st'.taken ≤ 100000 + 1000 * j ∧ st'.fo g6 = some (cur6, 3)) := ⟨hI', b1, b2, b3, b4, b5, b6, b7, b8, b9⟩
          have HIM : Hid (i ∉ st.pl.take j ∧ st.pl.take (j + 1) = st.pl.take j ++ [i]) := ⟨hni, htk'⟩
          clear hS' hI' b1 b2 b3 b4 b5 b6 b7 b8 b9 h512 hwtb hlfb hi hni htk'
          go_wp2_with (first | (go_at_call 7; refine HPLC.out.mono ?_; rintro _ w8 ⟨rfl, st8, hS8, hP8⟩; have HS8 : Hid (Sta L st8 w8) := hS8; have HP8 : Hid (Placing L i (L.rd i).length st' st8) := hP8; clear hS8 hP8))
          go_roundw
          case rel =>
            obtain ⟨c1, c2, c3, c4, c5, c6, c7, c8, c9, c10⟩ := HST.out
            have hP := HP8.out
            obtain ⟨d1, d2, d3, d4, d5⟩ := hP.on c3
            have hps : st8.ps = placeP L.add L.rd L.m i st'.ps := by
              have := hP.ps
              rw [List.take_length] at this
              exact this
            have hrl := G.rdle i him
            refine ⟨j + 1, st8, by omega, by go_num, HS8.out, ?_, ?_, hP.rc.trans c3, by rw [d1]; simp [c4], by rw [d2]; simp [c5], by rw [d3, c6], by rw [d4]; omega, by rw [d5]; simp [c8], by have := hP.tk; omega, by rw [hP.fo]; exact c10⟩
            · rw [HIM.out.2, hps]
              exact c1.place (by unfold Lay.n at hn; exact hn) him HIM.out.1 (G.rdlt i him) (G.rdnd i him)
            · rw [hP.pl, c2, HIM.out.2]
          case measure => simp [intOf]; omega
        · obtain rfl : j = k := by omega
          go_wp2
          go_end0
          exact ⟨rfl, st', hS', hI', b1, b2, b3, b4⟩
end Go.Proofs.YbulkcoguDoor
