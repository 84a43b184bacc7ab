import Derived.Test.YbulkcoguDoorKill
import Derived.Deep.Cut
import Derived.Deep.CutRange
import Derived.Deep.DeepCutAuto
namespace Go.Proofs.YbulkcoguDoor
open Go.RowKit Go.Deep
set_option linter.unusedVariables false
set_option linter.unusedSimpArgs false

theorem Ybad.info3 : (Ybad.prog.info? 3).map (fun i => (i.zero, i.size, i.bytes)) = some (some (.int .i64 0), 1, 8) := by kernel_rfl

def St.ps (st : St) : PS := ⟨st.live, st.wt, st.lf⟩

/-- Member i is being placed: k of its reads are done. -/
structure Placing (L : Lay) (i k : Nat) (st st' : St) : Prop where
  ps : st'.ps = ((L.rd i).take k).foldl (fun c g => stepP L.add L.m g c) (killP L.add i st.ps)
  lv : st'.live < 512
  wt : ∀ u, u < L.n → st.wt u - 1 - k ≤ st'.wt u ∧ st'.wt u ≤ st.wt u
  lf : ∀ g, g < L.s → st.lf g - k ≤ st'.lf g ∧ st'.lf g ≤ st.lf g
  tk : st'.taken ≤ st.taken + 20 + 20 * k
  pl : st'.pl = st.pl ++ [i]
  rc : st'.rc = st.rc
  fo : st'.fo = st.fo
  on : st.rc = true → st'.mks = st.mks ++ [st.tr.length] ∧ st'.ems = st.ems ++ [0] ∧ st'.pc = st.pc + 1 ∧ st'.sv = st.pc + 1 ∧ st'.tr = st.tr ++ [st.live]
  off : st.rc = false → st'.mks = st.mks ∧ st'.ems = st.ems ∧ st'.pc = st.pc ∧ st'.sv = st.sv ∧ st'.tr = st.tr

/-- Ahead of the first kill. -/
structure Begun (i : Nat) (st st' : St) : Prop where
  ps : st'.ps = st.ps
  tk : st'.taken = st.taken
  pl : st'.pl = st.pl ++ [i]
  rc : st'.rc = st.rc
  fo : st'.fo = st.fo
  tr : st'.tr = st.tr
  sv : st'.sv = st.sv
  on : st.rc = true → st'.mks = st.mks ++ [st.tr.length] ∧ st'.ems = st.ems ++ [0] ∧ st'.pc = st.pc + 1
  off : st.rc = false → st'.mks = st.mks ∧ st'.ems = st.ems ∧ st'.pc = st.pc

theorem Sta.allocd {L : Lay} {st : St} {w : World} (h : Sta L st w) (G : Good L) (o : Obj) (n : Nat) : Sta L st ((w.alloc o).drewN n) :=
  (h.below G ((Below.refl _ w).alloc (Nat.le_refl _) o)).drewN n

theorem Sta.fK {L : Lay} {st : St} {w : World} (h : Sta L st w) (G : Good L) (o : Nat) : w.frozen? ⟨L.K, o, none⟩ = false := h.core.fix.fr G (b := L.K) (by simp [Lay.Spec]) o

/-- placed has been appended to. -/
structure Put0 (i : Nat) (st st' : St) : Prop where
  ps : st'.ps = st.ps
  tk : st'.taken = st.taken
  pl : st'.pl = st.pl ++ [i]
  rc : st'.rc = st.rc
  fo : st'.fo = st.fo
  tr : st'.tr = st.tr
  sv : st'.sv = st.sv
  mks : st'.mks = st.mks
  ems : st'.ems = st.ems
  pc : st'.pc = st.pc

theorem bound_max {n : Nat} (h : n ≤ 1000) : n + 1 ≤ maxLen := by unfold maxLen; omega

theorem Fix.readRow {L : Lay} (G : Good L) {i : Nat} (hi : i < L.m) : ∃ ra rcap, L.rv i = .slice ra (L.rd i).length rcap ∧ (L.rd i).length ≤ rcap ∧ ∀ j, j < (L.rd i).length → ∃ b, ra = some ⟨b, 0, none⟩ ∧ ∀ W, Fix L W → W.cell? ⟨b, j, none⟩ = some (.int .i64 ((L.rd i).getD j 0 : Nat)) := by
  rcases G.rrow i hi with ⟨h1, h2⟩ | ⟨c, h1, h1', h2, h3, h4⟩
  · exact ⟨none, 0, by rw [h1, h2]; rfl, by rw [h2]; exact Nat.le_refl _, fun j hj => by rw [h2] at hj; simp at hj⟩
  · refine ⟨some ⟨L.rb i, 0, none⟩, c, h1, h1', fun j hj => ⟨L.rb i, rfl, fun W hW => ?_⟩⟩
    rw [hW.plain G h2 h3, h4 j hj]
    simp [encI, hj]

theorem Placing.start {L : Lay} {i : Nat} {st st2 st5 : St} (hb : Begun i st st2) (hk : Killed L i st2 st5) (hlv : st.live < 512) (hsv : st.sv ≤ st.pc) : Placing L i 0 st st5 := by
  have e1 : st2.live = st.live := congrArg PS.live hb.ps
  have e2 : st2.wt = st.wt := congrArg PS.wt hb.ps
  have e3 : st2.lf = st.lf := congrArg PS.lf hb.ps
  refine ⟨?_, ?_, fun u hu => ?_, fun g hg => ?_, ?_, hk.pl.trans hb.pl, hk.rc.trans hb.rc, hk.fo.trans hb.fo, fun hr => ?_, fun hr => ?_⟩
  · show (⟨st5.live, st5.wt, st5.lf⟩ : PS) = killP L.add i ⟨st.live, st.wt, st.lf⟩
    rw [hk.live, hk.wt, hk.lf, e1, e2, e3]
    rfl
  · rw [hk.live, e1]; exact andn_lt hlv
  · rw [hk.wt, e2]
    have := bit_01 (L.add i) u
    simp only []
    omega
  · rw [hk.lf, e3]; omega
  · have := hk.taken; rw [hb.tk] at this; omega
  · obtain ⟨h1, h2, h3⟩ := hb.on hr
    have hr2 : st2.rc = true := hb.rc.trans hr
    refine ⟨hk.mks.trans h1, hk.ems.trans h2, hk.pc.trans h3, ?_, ?_⟩
    · rw [hk.sv, if_pos hr2, h3]
    · rw [hk.tr, if_pos ⟨hr2, by rw [hb.sv, h3]; omega⟩, hb.tr, e1]
  · obtain ⟨h1, h2, h3⟩ := hb.off hr
    have hr2 : st2.rc = false := hb.rc.trans hr
    refine ⟨hk.mks.trans h1, hk.ems.trans h2, hk.pc.trans h3, ?_, ?_⟩
    · rw [hk.sv, if_neg (by rw [hr2]; decide), hb.sv]
    · rw [hk.tr, if_neg (by rw [hr2]; simp), hb.tr]

theorem Placing.skip {L : Lay} {i k g : Nat} {st st' : St} (h : Placing L i k st st') (hk : k < (L.rd i).length) (hg : (L.rd i).getD k 0 = g) (h0 : ¬ st'.lf g - 1 = 0) : Placing L i (k + 1) st { st' with lf := put st'.lf g (st'.lf g - 1) } := by
  have hg' : (L.rd i)[k] = g := by rw [← hg]; simp [hk]
  refine ⟨?_, h.lv, fun u hu => ?_, fun g' hg'' => ?_, ?_, h.pl, h.rc, h.fo, h.on, h.off⟩
  · rw [List.take_succ_eq_append_getElem hk, List.foldl_append, ← h.ps, hg']
    show _ = stepP L.add L.m g st'.ps
    unfold stepP
    rw [if_neg (by exact h0)]
    rfl
  · have := h.wt u hu; simp only []; omega
  · have := h.lf g' hg''
    show st.lf g' - ((k + 1 : Nat) : Int) ≤ put st'.lf g (st'.lf g - 1) g' ∧ put st'.lf g (st'.lf g - 1) g' ≤ _
    unfold put
    split
    · rename_i e; subst e; omega
    · omega
  · have := h.tk; show st'.taken ≤ _; omega

theorem Placing.kill {L : Lay} {i k g : Nat} {st st' st'' : St} (h : Placing L i k st st') (hk : k < (L.rd i).length) (hg : (L.rd i).getD k 0 = g) (h0 : st'.lf g - 1 = 0) (hK : Killed L (L.m + g) { st' with lf := put st'.lf g (st'.lf g - 1) } st'') : Placing L i (k + 1) st st'' := by
  have hg' : (L.rd i)[k] = g := by rw [← hg]; simp [hk]
  refine ⟨?_, ?_, fun u hu => ?_, fun g' hg'' => ?_, ?_, hK.pl.trans h.pl, hK.rc.trans h.rc, hK.fo.trans h.fo, fun hr => ?_, fun hr => ?_⟩
  · rw [List.take_succ_eq_append_getElem hk, List.foldl_append, ← h.ps, hg']
    show _ = stepP L.add L.m g st'.ps
    unfold stepP
    rw [if_pos (by exact h0)]
    show (⟨st''.live, st''.wt, st''.lf⟩ : PS) = _
    rw [hK.live, hK.wt, hK.lf]
    rfl
  · rw [hK.live]; exact andn_lt h.lv
  · have := h.wt u hu
    have := bit_01 (L.add (L.m + g)) u
    rw [hK.wt]
    simp only []
    omega
  · have := h.lf g' hg''
    rw [hK.lf]
    show st.lf g' - ((k + 1 : Nat) : Int) ≤ put st'.lf g (st'.lf g - 1) g' ∧ put st'.lf g (st'.lf g - 1) g' ≤ _
    unfold put
    split
    · rename_i e; subst e; omega
    · omega
  · have h1 := h.tk
    have h2 := hK.taken
    have h3 : st''.taken ≤ st'.taken + 20 := h2
    omega
  · obtain ⟨a1, a2, a3, a4, a5⟩ := h.on hr
    refine ⟨hK.mks.trans a1, hK.ems.trans a2, hK.pc.trans a3, ?_, ?_⟩
    · rw [hK.sv]
      show (if st'.rc = true then st'.pc else st'.sv) = _
      rw [if_pos (h.rc.trans hr), a3]
    · rw [hK.tr]
      show (if st'.rc = true ∧ st'.sv ≠ st'.pc then st'.tr ++ [st'.live] else st'.tr) = _
      rw [if_neg (fun hh => hh.2 (by rw [a3, a4])), a5]
  · obtain ⟨a1, a2, a3, a4, a5⟩ := h.off hr
    have hr' : st'.rc = false := h.rc.trans hr
    refine ⟨hK.mks.trans a1, hK.ems.trans a2, hK.pc.trans a3, ?_, ?_⟩
    · rw [hK.sv]
      show (if st'.rc = true then st'.pc else st'.sv) = _
      rw [if_neg (by rw [hr']; decide), a4]
    · rw [hK.tr]
      show (if st'.rc = true ∧ st'.sv ≠ st'.pc then st'.tr ++ [st'.live] else st'.tr) = _
      rw [if_neg (by rw [hr']; simp), a5]

set_option maxRecDepth 100000 in
set_option maxHeartbeats 2000000 in
theorem place_any {L : Lay} (G : Good L) {st : St} {w : World} (h : Sta L st w) (hl : st.tr.length ≤ 90) (hlv : st.live < 512) (hpc : st.pc ≤ 900) (hsv : st.sv ≤ st.pc) (htk : st.taken ≤ 900000) (hwt : ∀ u, u < L.n → -900 ≤ st.wt u ∧ st.wt u ≤ 900) (hlf : ∀ g, g < L.s → -900 ≤ st.lf g ∧ st.lf g ≤ 900)
    (hpl : st.pl.length ≤ 90) (hml : st.mks.length ≤ 90) (hel : st.ems.length ≤ 90) (i : Nat) (hi : i < L.m) :
    Calls Ybad.prog 7 #[.pointer (some ⟨L.K, 0, none⟩), .int .i64 i] w fun e w' => e = .returned (.bool true) ∧ ∃ st', Sta L st' w' ∧ Placing L i (L.rd i).length st st' := by
  have hn : L.n ≤ 9 := by have := G.m6; have := G.s3; unfold Lay.n; omega
  have hm6 := G.m6
  have HS : Hid (Sta L st w) := h
  have HWT : Hid (∀ u, u < L.n → -900 ≤ st.wt u ∧ st.wt u ≤ 900) := hwt
  have HLF : Hid (∀ g, g < L.s → -900 ≤ st.lf g ∧ st.lf g ≤ 900) := hlf
  obtain ⟨i0, hi0, hz0, hz1, hz2⟩ := info_parts Ybad.info3
  have HI : Hid (Ybad.prog.info? 3 = some i0 ∧ i0.zero = some (.int .i64 0) ∧ i0.size = 1 ∧ i0.bytes = 8) := ⟨hi0, hz0, hz1, hz2⟩
  have lK : L.K < w.heap.size := Nat.lt_of_lt_of_le G.Kl h.core.fix.size
  have k17 := h.core.kd 17 _ rfl
  have f17 := h.fK G 17
  have HSA : Hid (Sta L st (w.alloc (.cells #[.int .i64 i] 3))) := (h.allocd G (.cells #[.int .i64 i] 3) 0)
  clear h hwt hlf hi0 hz0 hz1 hz2
  go_enter Ybad.func7, Ybad.ntmps7
  go_upto_if 23 with (at_builtin; refine wpList_append_lies _ (by rfl) _ _ _ (by rfl) L.w1.heap.size 3 i0 _ 1 8 Ybad.underlying28 HI.out.1 HI.out.2.1 HI.out.2.2.1 HI.out.2.2.2 rfl (by omega) st.vp st.pl.length (st.pl.map encI) (by rfl) HSA.out.rest.rp ⟨w.heap.size, 0, none⟩ 1 1 [.int .i64 i] (by rfl) (by rfl) (World.news_of_block (cs := #[.int .i64 i]) (t := 3) (fr := (0, 0)) (heap_alloc_new w _)) (by simp [Value.oneCell']) (by omega) (bound_max (by omega)) (by omega) HSA.out.core.fix.size (w.heap.size + 1) (by simp) ?_; intro gg cap w2 hown hgrow hat hlt; have hcore := HSA.out.grownRow G st.vp (base_le HSA.out.rest.rp) hgrow; have c17 := hcore.kd 17 _ rfl; have g17 := hcore.fix.fr G (b := L.K) (by simp [Lay.Spec]) 17; have k20 := hcore.kd 20 _ rfl; have HP : Hid _ := HSA.out.appP G (x := i) hown hgrow (by simpa using hat); clear hcore hown hgrow hat)
  obtain ⟨W1, hW1⟩ : ∃ W, W = w2.setCell ⟨L.K, 17, none⟩ (.slice (some ⟨gg, 0, none⟩) (st.pl.length + 1) cap) := ⟨_, rfl⟩
  have hHP := HP.out
  rw [← hW1] at hHP ⊢
  obtain ⟨st1, hS1, hb1⟩ : ∃ st1, Sta L st1 W1 ∧ Put0 i st st1 := ⟨_, hHP, ⟨rfl, rfl, rfl, rfl, rfl, rfl, rfl, rfl, rfl, rfl⟩⟩
  have HS1 : Hid (Sta L st1 W1) := hS1
  have HB1 : Hid (Put0 i st st1) := hb1
  have hml1 : st1.mks.length ≤ 90 := by rw [hb1.mks]; exact hml
  have hel1 : st1.ems.length ≤ 90 := by rw [hb1.ems]; exact hel
  have hpc1 : st1.pc ≤ 900 := by rw [hb1.pc]; exact hpc
  clear hHP hW1 HP hS1 hb1 c17 g17 k20 k17 f17 HSA hlt
  go_cut [] (fun wx => ∃ st2, Sta L st2 wx ∧ Begun i st st2)
  case first =>
    cases hrc : st.rc with
    | false =>
      go_wp2
      go_meet
      have hb := HB1.out
      exact ⟨st1, HS1.out, ⟨hb.ps, hb.tk, hb.pl, hb.rc, hb.fo, hb.tr, hb.sv, fun h => (by rw [hrc] at h; cases h), fun _ => ⟨hb.mks, hb.ems, hb.pc⟩⟩⟩
    | true =>
      go_wp2
      refine wp_region_L (fun w' => w'.cell? ⟨L.K, 21, none⟩ = some st1.vm ∧ w'.cell? ⟨L.K, 23, none⟩ = some (.int .i64 st1.tr.length)) 14 15 (by kernel_rfl) (by kernel_rfl) ?_
      have HSS3 : Hid ((fun w' : World => w'.cell? ⟨L.K, 21, none⟩ = some st1.vm ∧ w'.cell? ⟨L.K, 23, none⟩ = some (.int .i64 st1.tr.length)) W1.drew) := ⟨HS1.out.core.kd 21 _ rfl, HS1.out.core.kd 23 _ rfl⟩
      refine wpU_take (i := 0) (v := ?_) rfl (by kernel_rfl) (by kernel_rfl) (by kernel_rfl) (by kernel_rfl) (fun _ _ _ h => h) (by rfl) ?_ HSS3.out ?_
      rotate_left
      · (intro wS hwS; (try dsimp only at hwS); go_simp; try with_reducible rfl)
      simp only [Act.put, List.getElem_toArray, List.getElem_cons_zero, List.getElem_cons_succ, List.setIfInBounds_toArray, List.set_cons_zero, List.set_cons_succ]
      refine wpU_take (i := 1) (v := ?_) rfl (by kernel_rfl) (by kernel_rfl) (by kernel_rfl) (by kernel_rfl) (fun _ _ _ h => h) (by rfl) ?_ HSS3.out ?_
      rotate_left
      · (intro wS hwS; (try dsimp only at hwS); go_simp; try with_reducible rfl)
      simp only [Act.put, List.getElem_toArray, List.getElem_cons_zero, List.getElem_cons_succ, List.setIfInBounds_toArray, List.set_cons_zero, List.set_cons_succ]
      refine wpU_take (i := 2) (v := ?_) rfl (by kernel_rfl) (by kernel_rfl) (by kernel_rfl) (by kernel_rfl) (fun _ _ _ h => h) (by rfl) ?_ HSS3.out ?_
      rotate_left
      · (intro wS hwS; (try dsimp only at hwS); go_simp; try with_reducible rfl)
      simp only [Act.put, List.getElem_toArray, List.getElem_cons_zero, List.getElem_cons_succ, List.setIfInBounds_toArray, List.set_cons_zero, List.set_cons_succ]
      refine wpU_take (i := 3) (v := ?_) rfl (by kernel_rfl) (by kernel_rfl) (by kernel_rfl) (by kernel_rfl) (fun _ _ _ h => h) (by rfl) ?_ HSS3.out ?_
      rotate_left
      · (intro wS hwS; (try dsimp only at hwS); go_simp; try with_reducible rfl)
      simp only [Act.put, List.getElem_toArray, List.getElem_cons_zero, List.getElem_cons_succ, List.setIfInBounds_toArray, List.set_cons_zero, List.set_cons_succ]
      refine wpU_take (i := 4) (v := ?_) rfl (by kernel_rfl) (by kernel_rfl) (by kernel_rfl) (by kernel_rfl) (fun _ _ _ h => h) (by rfl) ?_ HSS3.out ?_
      rotate_left
      · (intro wS hwS; (try dsimp only at hwS); go_simp; try with_reducible rfl)
      simp only [Act.put, List.getElem_toArray, List.getElem_cons_zero, List.getElem_cons_succ, List.setIfInBounds_toArray, List.set_cons_zero, List.set_cons_succ]
      refine wpU_take (i := 5) (v := ?_) rfl (by kernel_rfl) (by kernel_rfl) (by kernel_rfl) (by kernel_rfl) (fun _ _ _ h => h) (by rfl) ?_ HSS3.out ?_
      rotate_left
      · (intro wS hwS; (try dsimp only at hwS); go_simp; try with_reducible rfl)
      simp only [Act.put, List.getElem_toArray, List.getElem_cons_zero, List.getElem_cons_succ, List.setIfInBounds_toArray, List.set_cons_zero, List.set_cons_succ]
      refine wpU_take (i := 6) (v := ?_) rfl (by kernel_rfl) (by kernel_rfl) (by kernel_rfl) (by kernel_rfl) (fun _ _ _ h => h) (by rfl) ?_ HSS3.out ?_
      rotate_left
      · (intro wS hwS; (try dsimp only at hwS); go_simp; try with_reducible rfl)
      simp only [Act.put, List.getElem_toArray, List.getElem_cons_zero, List.getElem_cons_succ, List.setIfInBounds_toArray, List.set_cons_zero, List.set_cons_succ]
      refine wpU_take (i := 7) (v := ?_) rfl (by kernel_rfl) (by kernel_rfl) (by kernel_rfl) (by kernel_rfl) (fun _ _ _ h => h) (by rfl) ?_ HSS3.out ?_
      rotate_left
      · (intro wS hwS; (try dsimp only at hwS); go_simp; try with_reducible rfl)
      simp only [Act.put, List.getElem_toArray, List.getElem_cons_zero, List.getElem_cons_succ, List.setIfInBounds_toArray, List.set_cons_zero, List.set_cons_succ]
      refine wpU_take (i := 8) (v := ?_) rfl (by kernel_rfl) (by kernel_rfl) (by kernel_rfl) (by kernel_rfl) (fun _ _ _ h => h) (by rfl) ?_ HSS3.out ?_
      rotate_left
      · (intro wS hwS; (try dsimp only at hwS); go_simp; try with_reducible rfl)
      simp only [Act.put, List.getElem_toArray, List.getElem_cons_zero, List.getElem_cons_succ, List.setIfInBounds_toArray, List.set_cons_zero, List.set_cons_succ]
      refine wpU_take (i := 9) (v := ?_) rfl (by kernel_rfl) (by kernel_rfl) (by kernel_rfl) (by kernel_rfl) (fun _ _ _ h => h) (by rfl) ?_ HSS3.out ?_
      rotate_left
      · (intro wS hwS; (try dsimp only at hwS); go_simp; try with_reducible rfl)
      simp only [Act.put, List.getElem_toArray, List.getElem_cons_zero, List.getElem_cons_succ, List.setIfInBounds_toArray, List.set_cons_zero, List.set_cons_succ]
      have HB3 : Hid (Sta L st1 (W1.drew.alloc (.cells #[.int .i64 st1.tr.length] 3))) := (HS1.out.allocd G (.cells #[.int .i64 st1.tr.length] 3) 1)
      have HSB3 : Hid ((fun w' : World => w'.cell? ⟨L.K, 21, none⟩ = some st1.vm ∧ w'.cell? ⟨L.K, 23, none⟩ = some (.int .i64 st1.tr.length)) (W1.drew.alloc (.cells #[.int .i64 st1.tr.length] 3))) := ⟨HB3.out.core.kd 21 _ rfl, HB3.out.core.kd 23 _ rfl⟩
      refine wpL_one (i := 10) (by kernel_rfl) rfl (fun K hK => ?_)
      simp only [List.getElem_toArray, List.getElem_cons_zero, List.getElem_cons_succ]
      go_simp
      refine hK.out _ _ (fun _ => HSB3.out) ?_
      clear hK K
      try simp only [Act.put, List.getElem_toArray, List.getElem_cons_zero, List.getElem_cons_succ, List.setIfInBounds_toArray, List.set_cons_zero, List.set_cons_succ]
      refine wpL_one (i := 11) (by kernel_rfl) rfl (fun K hK => ?_)
      refine step_append_lies _ (by rfl) _ _ _ (by rfl) L.w1.heap.size 3 i0 _ 1 8 Ybad.underlying28 HI.out.1 HI.out.2.1 HI.out.2.2.1 HI.out.2.2.2 rfl (by omega) st1.vm st1.mks.length (st1.mks.map encI) (by rfl) HB3.out.rest.rm ⟨W1.heap.size, 0, none⟩ 1 1 [.int .i64 st1.tr.length] (by rfl) (by rfl) (World.news_of_block (cs := #[.int .i64 st1.tr.length]) (t := 3) (fr := (0, 0)) (heap_alloc_new W1 _)) (by simp [Value.oneCell']) (by omega) (bound_max (by omega)) (by omega) HB3.out.core.fix.size (W1.heap.size + 1) (by simp) ?_
      intro g3 cap3 w3 hown hgrow hat hlt3
      have hcore := HB3.out.grownRow G st1.vm (base_le HB3.out.rest.rm) hgrow
      have c21 := hcore.kd 21 _ rfl
      have g21 := hcore.fix.fr G (b := L.K) (by simp [Lay.Spec]) 21
      have HSC3 : Hid ((fun w' : World => w'.cell? ⟨L.K, 21, none⟩ = some st1.vm ∧ w'.cell? ⟨L.K, 23, none⟩ = some (.int .i64 st1.tr.length)) w3) := ⟨hcore.kd 21 _ rfl, hcore.kd 23 _ rfl⟩
      have HM3 : Hid _ := HB3.out.appM G (x := st1.tr.length) hown hgrow (by simpa using hat)
      refine hK.out _ _ (fun _ => HSC3.out) ?_
      clear hK K hcore hown hgrow hat
      try simp only [Act.put, List.getElem_toArray, List.getElem_cons_zero, List.getElem_cons_succ, List.setIfInBounds_toArray, List.set_cons_zero, List.set_cons_succ]
      refine wpL_one (i := 12) (by kernel_rfl) rfl (fun K hK => ?_)
      simp only [List.getElem_toArray, List.getElem_cons_zero, List.getElem_cons_succ]
      go_simp
      refine hK.out _ _ (fun _ => HSC3.out) ?_
      clear hK K
      try simp only [Act.put, List.getElem_toArray, List.getElem_cons_zero, List.getElem_cons_succ, List.setIfInBounds_toArray, List.set_cons_zero, List.set_cons_succ]
      refine wpU_take (i := 13) (v := ?_) rfl (by kernel_rfl) (by kernel_rfl) (by kernel_rfl) (by kernel_rfl) (fun _ _ _ h => h) (by rfl) ?_ HSC3.out ?_
      rotate_left
      · (intro wS hwS; (try dsimp only at hwS); go_simp; try with_reducible rfl)
      simp only [Act.put, List.getElem_toArray, List.getElem_cons_zero, List.getElem_cons_succ, List.setIfInBounds_toArray, List.set_cons_zero, List.set_cons_succ]
      refine wpL_one (i := 14) (by kernel_rfl) rfl (fun K hK => ?_)
      simp only [List.getElem_toArray, List.getElem_cons_zero, List.getElem_cons_succ]
      go_simp
      refine hK.out _ _ (fun h => absurd rfl h) ?_
      clear hK K
      refine wpL_done (by kernel_rfl) ?_ _
      obtain ⟨W3, hW3⟩ : ∃ W, W = w3.setCell ⟨L.K, 21, none⟩ (.slice (some ⟨g3, 0, none⟩) (st1.mks.length + 1) cap3) := ⟨_, rfl⟩
      have hM3 := HM3.out
      rw [← hW3] at hM3 ⊢
      obtain ⟨st3, hS3, he3⟩ : ∃ st3, Sta L st3 W3 ∧ (st3.ps = st1.ps ∧ st3.taken = st1.taken ∧ st3.pl = st1.pl ∧ st3.rc = st1.rc ∧ st3.fo = st1.fo ∧ st3.tr = st1.tr ∧ st3.sv = st1.sv ∧ st3.mks = st1.mks ++ [st1.tr.length] ∧ st3.ems = st1.ems ∧ st3.pc = st1.pc) := ⟨_, hM3, ⟨rfl, rfl, rfl, rfl, rfl, rfl, rfl, rfl, rfl, rfl⟩⟩
      have HS3 : Hid (Sta L st3 W3) := hS3
      have HE3 : Hid _ := he3
      have hel3 : st3.ems.length ≤ 90 := by rw [he3.2.2.2.2.2.2.2.2.1]; exact hel1
      have hpc3 : st3.pc ≤ 900 := by rw [he3.2.2.2.2.2.2.2.2.2]; exact hpc1
      clear hM3 hW3 HM3 hS3 he3 c21 g21 HSS3 HB3 HSB3 HSC3 hlt3
      go_wp2
      refine wp_region_L (fun w' => w'.cell? ⟨L.K, 38, none⟩ = some st3.ve ∧ w'.cell? ⟨L.K, 36, none⟩ = some (.slice none 0 0)) 14 15 (by kernel_rfl) (by kernel_rfl) ?_
      have HSS4 : Hid ((fun w' : World => w'.cell? ⟨L.K, 38, none⟩ = some st3.ve ∧ w'.cell? ⟨L.K, 36, none⟩ = some (.slice none 0 0)) W3.drew) := ⟨HS3.out.core.kd 38 _ rfl, HS3.out.core.fix.k G (o := 36) rfl⟩
      refine wpU_take (i := 0) (v := ?_) rfl (by kernel_rfl) (by kernel_rfl) (by kernel_rfl) (by kernel_rfl) (fun _ _ _ h => h) (by rfl) ?_ HSS4.out ?_
      rotate_left
      · (intro wS hwS; (try dsimp only at hwS); go_simp; try with_reducible rfl)
      simp only [Act.put, List.getElem_toArray, List.getElem_cons_zero, List.getElem_cons_succ, List.setIfInBounds_toArray, List.set_cons_zero, List.set_cons_succ]
      refine wpU_take (i := 1) (v := ?_) rfl (by kernel_rfl) (by kernel_rfl) (by kernel_rfl) (by kernel_rfl) (fun _ _ _ h => h) (by rfl) ?_ HSS4.out ?_
      rotate_left
      · (intro wS hwS; (try dsimp only at hwS); go_simp; try with_reducible rfl)
      simp only [Act.put, List.getElem_toArray, List.getElem_cons_zero, List.getElem_cons_succ, List.setIfInBounds_toArray, List.set_cons_zero, List.set_cons_succ]
      refine wpU_take (i := 2) (v := ?_) rfl (by kernel_rfl) (by kernel_rfl) (by kernel_rfl) (by kernel_rfl) (fun _ _ _ h => h) (by rfl) ?_ HSS4.out ?_
      rotate_left
      · (intro wS hwS; (try dsimp only at hwS); go_simp; try with_reducible rfl)
      simp only [Act.put, List.getElem_toArray, List.getElem_cons_zero, List.getElem_cons_succ, List.setIfInBounds_toArray, List.set_cons_zero, List.set_cons_succ]
      refine wpU_take (i := 3) (v := ?_) rfl (by kernel_rfl) (by kernel_rfl) (by kernel_rfl) (by kernel_rfl) (fun _ _ _ h => h) (by rfl) ?_ HSS4.out ?_
      rotate_left
      · (intro wS hwS; (try dsimp only at hwS); go_simp; try with_reducible rfl)
      simp only [Act.put, List.getElem_toArray, List.getElem_cons_zero, List.getElem_cons_succ, List.setIfInBounds_toArray, List.set_cons_zero, List.set_cons_succ]
      refine wpU_take (i := 4) (v := ?_) rfl (by kernel_rfl) (by kernel_rfl) (by kernel_rfl) (by kernel_rfl) (fun _ _ _ h => h) (by rfl) ?_ HSS4.out ?_
      rotate_left
      · (intro wS hwS; (try dsimp only at hwS); go_simp; try with_reducible rfl)
      simp only [Act.put, List.getElem_toArray, List.getElem_cons_zero, List.getElem_cons_succ, List.setIfInBounds_toArray, List.set_cons_zero, List.set_cons_succ]
      refine wpU_take (i := 5) (v := ?_) rfl (by kernel_rfl) (by kernel_rfl) (by kernel_rfl) (by kernel_rfl) (fun _ _ _ h => h) (by rfl) ?_ HSS4.out ?_
      rotate_left
      · (intro wS hwS; (try dsimp only at hwS); go_simp; try with_reducible rfl)
      simp only [Act.put, List.getElem_toArray, List.getElem_cons_zero, List.getElem_cons_succ, List.setIfInBounds_toArray, List.set_cons_zero, List.set_cons_succ]
      refine wpU_take (i := 6) (v := ?_) rfl (by kernel_rfl) (by kernel_rfl) (by kernel_rfl) (by kernel_rfl) (fun _ _ _ h => h) (by rfl) ?_ HSS4.out ?_
      rotate_left
      · (intro wS hwS; (try dsimp only at hwS); go_simp; try with_reducible rfl)
      simp only [Act.put, List.getElem_toArray, List.getElem_cons_zero, List.getElem_cons_succ, List.setIfInBounds_toArray, List.set_cons_zero, List.set_cons_succ]
      refine wpU_take (i := 7) (v := ?_) rfl (by kernel_rfl) (by kernel_rfl) (by kernel_rfl) (by kernel_rfl) (fun _ _ _ h => h) (by rfl) ?_ HSS4.out ?_
      rotate_left
      · (intro wS hwS; (try dsimp only at hwS); go_simp; try with_reducible rfl)
      simp only [Act.put, List.getElem_toArray, List.getElem_cons_zero, List.getElem_cons_succ, List.setIfInBounds_toArray, List.set_cons_zero, List.set_cons_succ]
      refine wpU_take (i := 8) (v := ?_) rfl (by kernel_rfl) (by kernel_rfl) (by kernel_rfl) (by kernel_rfl) (fun _ _ _ h => h) (by rfl) ?_ HSS4.out ?_
      rotate_left
      · (intro wS hwS; (try dsimp only at hwS); go_simp; try with_reducible rfl)
      simp only [Act.put, List.getElem_toArray, List.getElem_cons_zero, List.getElem_cons_succ, List.setIfInBounds_toArray, List.set_cons_zero, List.set_cons_succ]
      refine wpU_take (i := 9) (v := ?_) rfl (by kernel_rfl) (by kernel_rfl) (by kernel_rfl) (by kernel_rfl) (fun _ _ _ h => h) (by rfl) ?_ HSS4.out ?_
      rotate_left
      · (intro wS hwS; (try dsimp only at hwS); go_simp; try with_reducible rfl)
      simp only [Act.put, List.getElem_toArray, List.getElem_cons_zero, List.getElem_cons_succ, List.setIfInBounds_toArray, List.set_cons_zero, List.set_cons_succ]
      have HB4 : Hid (Sta L st3 (W3.drew.alloc (.cells #[.int .i64 0] 3))) := (HS3.out.allocd G (.cells #[.int .i64 0] 3) 1)
      have HSB4 : Hid ((fun w' : World => w'.cell? ⟨L.K, 38, none⟩ = some st3.ve ∧ w'.cell? ⟨L.K, 36, none⟩ = some (.slice none 0 0)) (W3.drew.alloc (.cells #[.int .i64 0] 3))) := ⟨HB4.out.core.kd 38 _ rfl, HB4.out.core.fix.k G (o := 36) rfl⟩
      refine wpL_one (i := 10) (by kernel_rfl) rfl (fun K hK => ?_)
      simp only [List.getElem_toArray, List.getElem_cons_zero, List.getElem_cons_succ]
      go_simp
      refine hK.out _ _ (fun _ => HSB4.out) ?_
      clear hK K
      try simp only [Act.put, List.getElem_toArray, List.getElem_cons_zero, List.getElem_cons_succ, List.setIfInBounds_toArray, List.set_cons_zero, List.set_cons_succ]
      refine wpL_one (i := 11) (by kernel_rfl) rfl (fun K hK => ?_)
      refine step_append_lies _ (by rfl) _ _ _ (by rfl) L.w1.heap.size 3 i0 _ 1 8 Ybad.underlying28 HI.out.1 HI.out.2.1 HI.out.2.2.1 HI.out.2.2.2 rfl (by omega) st3.ve st3.ems.length (st3.ems.map encI) (by rfl) HB4.out.rest.re ⟨W3.heap.size, 0, none⟩ 1 1 [.int .i64 0] (by rfl) (by rfl) (World.news_of_block (cs := #[.int .i64 0]) (t := 3) (fr := (0, 0)) (heap_alloc_new W3 _)) (by simp [Value.oneCell']) (by omega) (bound_max (by omega)) (by omega) HB4.out.core.fix.size (W3.heap.size + 1) (by simp) ?_
      intro g4 cap4 w4 hown hgrow hat hlt4
      have hcore := HB4.out.grownRow G st3.ve (base_le HB4.out.rest.re) hgrow
      have c38 := hcore.kd 38 _ rfl
      have g38 := hcore.fix.fr G (b := L.K) (by simp [Lay.Spec]) 38
      have HSC4 : Hid ((fun w' : World => w'.cell? ⟨L.K, 38, none⟩ = some st3.ve ∧ w'.cell? ⟨L.K, 36, none⟩ = some (.slice none 0 0)) w4) := ⟨hcore.kd 38 _ rfl, hcore.fix.k G (o := 36) rfl⟩
      have HM4 : Hid _ := HB4.out.appE G (x := 0) hown hgrow (by simpa using hat)
      refine hK.out _ _ (fun _ => HSC4.out) ?_
      clear hK K hcore hown hgrow hat
      try simp only [Act.put, List.getElem_toArray, List.getElem_cons_zero, List.getElem_cons_succ, List.setIfInBounds_toArray, List.set_cons_zero, List.set_cons_succ]
      refine wpL_one (i := 12) (by kernel_rfl) rfl (fun K hK => ?_)
      simp only [List.getElem_toArray, List.getElem_cons_zero, List.getElem_cons_succ]
      go_simp
      refine hK.out _ _ (fun _ => HSC4.out) ?_
      clear hK K
      try simp only [Act.put, List.getElem_toArray, List.getElem_cons_zero, List.getElem_cons_succ, List.setIfInBounds_toArray, List.set_cons_zero, List.set_cons_succ]
      refine wpU_take (i := 13) (v := ?_) rfl (by kernel_rfl) (by kernel_rfl) (by kernel_rfl) (by kernel_rfl) (fun _ _ _ h => h) (by rfl) ?_ HSC4.out ?_
      rotate_left
      · (intro wS hwS; (try dsimp only at hwS); go_simp; try with_reducible rfl)
      simp only [Act.put, List.getElem_toArray, List.getElem_cons_zero, List.getElem_cons_succ, List.setIfInBounds_toArray, List.set_cons_zero, List.set_cons_succ]
      refine wpL_one (i := 14) (by kernel_rfl) rfl (fun K hK => ?_)
      simp only [List.getElem_toArray, List.getElem_cons_zero, List.getElem_cons_succ]
      go_simp
      refine hK.out _ _ (fun h => absurd rfl h) ?_
      clear hK K
      refine wpL_done (by kernel_rfl) ?_ _
      obtain ⟨W4, hW4⟩ : ∃ W, W = w4.setCell ⟨L.K, 38, none⟩ (.slice (some ⟨g4, 0, none⟩) (st3.ems.length + 1) cap4) := ⟨_, rfl⟩
      have hM4 := HM4.out
      rw [← hW4] at hM4 ⊢
      obtain ⟨st4, hS4, he4⟩ : ∃ st4, Sta L st4 W4 ∧ (st4.ps = st3.ps ∧ st4.taken = st3.taken ∧ st4.pl = st3.pl ∧ st4.rc = st3.rc ∧ st4.fo = st3.fo ∧ st4.tr = st3.tr ∧ st4.sv = st3.sv ∧ st4.mks = st3.mks ∧ st4.ems = st3.ems ++ [0] ∧ st4.pc = st3.pc) := ⟨_, hM4, ⟨rfl, rfl, rfl, rfl, rfl, rfl, rfl, rfl, rfl, rfl⟩⟩
      have k25 := hS4.core.kd 25 _ rfl
      have f25 := hS4.fK G 25
      have HS4 : Hid (Sta L st4 W4) := hS4
      have HE4 : Hid _ := he4
      have hpc4 : st4.pc ≤ 900 := by rw [he4.2.2.2.2.2.2.2.2.2]; exact hpc3
      clear hM4 hW4 HM4 hS4 he4 c38 g38 HSS4 HB4 HSB4 HSC4 hlt4
      go_wp2
      go_meet
      have hfin := HS4.out.setPc G (st4.pc + 1)
      obtain ⟨a1, a2, a3, a4, a5, a6, a7, a8, a9, a10⟩ := HE3.out
      obtain ⟨b1, b2, b3, b4, b5, b6, b7, b8, b9, b10⟩ := HE4.out
      have hb := HB1.out
      refine ⟨_, hfin, ⟨(b1.trans a1).trans hb.ps, (b2.trans a2).trans hb.tk, (b3.trans a3).trans hb.pl, (b4.trans a4).trans hb.rc, (b5.trans a5).trans hb.fo, (b6.trans a6).trans hb.tr, (b7.trans a7).trans hb.sv, fun _ => ⟨?_, ?_, ?_⟩, fun h => by rw [hrc] at h; cases h⟩⟩
      · show st4.mks = _
        rw [b8, a8, hb.mks, hb.tr]
      · show st4.ems = _
        rw [b9, a9, hb.ems]
      · show st4.pc + 1 = _
        rw [b10, a10, hb.pc]
  case rest =>
    obtain ⟨st2, hS2, hb2⟩ := hcut
    have e1 : st2.live = st.live := congrArg PS.live hb2.ps
    have e2 : st2.wt = st.wt := congrArg PS.wt hb2.ps
    have hin : i < L.n := by unfold Lay.n; omega
    have hpc2 : st2.pc ≤ 1000 := by
      cases hrc : st.rc with
      | true => rw [(hb2.on hrc).2.2]; omega
      | false => rw [(hb2.off hrc).2.2]; omega
    have HKL : Hid (Calls Ybad.prog 12 #[.pointer (some ⟨L.K, 0, none⟩), .int .i64 i] wc fun e w' => e = .returned (.tuple #[]) ∧ ∃ st', Sta L st' w' ∧ Placing L i 0 st st') :=
      (kill_any G hS2 (by rw [hb2.tr]; omega) (by rw [e1]; exact hlv) hpc2 (by rw [hb2.sv]; omega) (by rw [hb2.tk]; omega) (fun u hu => by rw [e2]; have := HWT.out u hu; omega) i hin).mono (by rintro e w' ⟨rfl, st', h1, h2⟩; exact ⟨rfl, st', h1, Placing.start hb2 h2 hlv hsv⟩)
    obtain ⟨ra, rcap, hrv, hrc, hrow⟩ := Fix.readRow G hi
    have HROW : Hid (∀ j, j < (L.rd i).length → ∃ b, ra = some ⟨b, 0, none⟩ ∧ ∀ W, Fix L W → W.cell? ⟨b, j, none⟩ = some (.int .i64 ((L.rd i).getD j 0 : Nat))) := hrow
    have HRD : Hid (∀ j, j < (L.rd i).length → (L.rd i).getD j 0 < L.s) := fun j hj => G.rdlt i hi _ (by simp [hj])
    have hlen : (L.rd i).length ≤ 9 := G.rdle i hi
    have hs3 := G.s3
    obtain ⟨len, hle⟩ : ∃ len, (L.rd i).length = len := ⟨_, rfl⟩
    have HLE : Hid ((L.rd i).length = len) := hle
    rw [hle] at hrv hrc hlen
    clear hle hrow hS2 hb2 e1 e2 HS1 HB1 HS
    go_wp2_with (first | (go_at_call 12; refine HKL.out.mono ?_; rintro _ w5 ⟨rfl, st5, hS5, hP5⟩; have k13 := hS5.core.fix.k G (o := 13) rfl; have krd := hS5.core.fix.readsAt G hi; rw [hrv] at krd; have HS5 : Hid (Sta L st5 w5) := hS5; have HP5 : Hid (Placing L i 0 st st5) := hP5; clear hS5 hP5))
    go_loopw [70] (fun q wr => ∃ (k : Nat) (st' : St), k ≤ len ∧ q = .int .i64 k ∧ Sta L st' wr ∧ Placing L i k st st') (fun q _ => len - (intOf q).toNat)
    case atStart => exact ⟨0, st5, Nat.zero_le _, rfl, HS5.out, HP5.out⟩
    case round =>
      obtain ⟨k, st', hk, rfl, hS', hP'⟩ := hrel
      by_cases hlt : k < len
      · obtain ⟨b, hb, hcell⟩ := HROW.out k (by rw [HLE.out]; exact hlt)
        have hg := HRD.out k (by rw [HLE.out]; exact hlt)
        have cb := hcell wr hS'.core.fix
        obtain ⟨g, hgg⟩ : ∃ g, (L.rd i).getD k 0 = g := ⟨_, rfl⟩
        rw [hgg] at cb hg
        have HGG : Hid ((L.rd i).getD k 0 = g) := hgg
        have cl := hS'.core.lf g hg
        have fl := hS'.core.fix.fr G (b := L.bG) (by simp [Lay.Spec]) (4 * g + 2)
        have k10 := hS'.core.fix.k G (o := 10) rfl
        have hlfb := hP'.lf g hg
        have hlf0 := HLF.out g hg
        have HS' : Hid (Sta L st' wr) := hS'
        have HP' : Hid (Placing L i k st st') := hP'
        obtain ⟨x, hx⟩ : ∃ x, st'.lf g - 1 = x := ⟨_, rfl⟩
        have HX : Hid (st'.lf g - 1 = x) := hx
        obtain ⟨y, hy⟩ : ∃ y, st'.lf g = y := ⟨_, rfl⟩
        rw [hy] at cl hlfb
        have hxy : y - 1 = x := by rw [← hy]; exact hx
        have hyb : -2000 ≤ y ∧ y ≤ 2000 := by omega
        rw [Nat.mul_comm] at cl fl
        subst hb
        clear hgg hcell hS' hP' hx hy hlfb hlf0 k13 krd
        go_wp2
        have hS6 := HS'.out.setLeft G g hg x
        rw [Nat.mul_comm] at hS6
        obtain ⟨W6, hW6⟩ : ∃ W, W = wr.setCell ⟨L.bG, g * 4 + 2, none⟩ (.int .i64 x) := ⟨_, rfl⟩
        rw [← hW6] at hS6 ⊢
        have cl6 := hS6.core.lf g hg
        have ce6 := hS6.core.fix.endAt G hg
        have k12 := hS6.core.fix.k G (o := 12) rfl
        rw [Nat.mul_comm] at cl6 ce6
        simp only [put, if_pos] at cl6
        have HS6 : Hid (Sta L { st' with lf := put st'.lf g x } W6) := hS6
        have hgn : L.m + g < L.n := by unfold Lay.n; omega
        clear hS6 hW6 cl fl k10 cb
        by_cases hx0 : x = 0
        · have HK6 : Hid (∀ nq, Calls Ybad.prog 12 #[.pointer (some ⟨L.K, 0, none⟩), .int .i64 ((L.m : Int) + (g : Int))] (W6.drewN nq) fun e w' => e = .returned (.tuple #[]) ∧ ∃ st'', Sta L st'' w' ∧ Placing L i (k + 1) st st'') := by
            intro nq
            rw [show (L.m : Int) + (g : Int) = ((L.m + g : Nat) : Int) from by omega]
            have hP := HP'.out
            have hbd := hP.tk
            refine (kill_any G (HS6.out.drewN nq) ?_ hP.lv ?_ ?_ ?_ ?_ (L.m + g) hgn).mono ?_
            · show st'.tr.length ≤ 100
              cases hr : st.rc with
              | true => rw [(hP.on hr).2.2.2.2]; simp; omega
              | false => rw [(hP.off hr).2.2.2.2]; omega
            · show st'.pc ≤ 1000
              cases hr : st.rc with
              | true => rw [(hP.on hr).2.2.1]; omega
              | false => rw [(hP.off hr).2.2.1]; omega
            · show st'.sv ≤ 1000
              cases hr : st.rc with
              | true => rw [(hP.on hr).2.2.2.1]; omega
              | false => rw [(hP.off hr).2.2.2.1]; omega
            · show st'.taken ≤ 1000000
              omega
            · intro u hu
              have h1 := HWT.out u hu
              have h2 := hP.wt u hu
              show -1000 ≤ st'.wt u ∧ st'.wt u ≤ 1000
              omega
            · rintro e w' ⟨rfl, st'', h1, h2⟩
              refine ⟨rfl, st'', h1, hP.kill (by rw [HLE.out]; exact hlt) HGG.out (by rw [HX.out]; exact hx0) ?_⟩
              rw [HX.out]
              exact h2
          have hb0 : (x == 0) = true := by simp [hx0]
          clear hxy hyb hx0
          go_quiet (fail)
          go_wp2_with (first | (go_at_call 12; refine (HK6.out _).mono ?_; rintro _ w7 ⟨rfl, st7, hS7, hP7⟩))
          go_roundw
          case rel => exact ⟨k + 1, st7, by omega, by go_num, hS7, hP7⟩
          case measure => simp [intOf]; omega
        · have hb0 : (x == 0) = false := by simp [hx0]
          have HX0 : Hid (¬ x = 0) := hx0
          clear hxy hyb hx0
          go_quiet (fail)
          go_wp2
          go_roundw
          case rel =>
            have hfin := HP'.out.skip (by rw [HLE.out]; exact hlt) HGG.out (by rw [HX.out]; exact HX0.out)
            rw [HX.out] at hfin
            exact ⟨k + 1, _, by omega, by go_num, HS6.out.drewN _, hfin⟩
          case measure => simp [intOf]; omega
      · obtain rfl : k = len := by omega
        have k12 := hS'.core.fix.k G (o := 12) rfl
        have kop := hS'.core.fix.openAt G hi
        have HST : Hid (Calls Ybad.prog 14 #[.pointer (some ⟨L.K, 0, none⟩)] wr fun e w' => e = .returned (.bool true) ∧ w' = wr) := settle_any G wr hS'.core.fix
        have HS' : Hid (Sta L st' wr) := hS'
        have HP' : Hid (Placing L i k st st') := hP'
        clear hS' hP' k13 krd
        obtain ⟨wz, hwz⟩ : ∃ wz, wz = wr := ⟨_, rfl⟩
        rw [← hwz] at k12 kop HST HS' ⊢
        clear hwz
        go_wp2
        go_loopw [119] (fun q wr => q = .int .i64 0 ∧ wr = wz) (fun _ _ => 0)
        case atStart => exact ⟨rfl, rfl⟩
        case round =>
          obtain ⟨rfl, rfl⟩ := hrel
          go_wp2_with (first | (go_at_call 14; refine HST.out.mono ?_; rintro _ _ ⟨rfl, rfl⟩))
          go_ret
          refine ⟨rfl, st', HS'.out, ?_⟩
          rw [HLE.out]
          exact HP'.out
end Go.Proofs.YbulkcoguDoor
