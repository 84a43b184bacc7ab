import Derived.Test.YbulkcoguDoorUndo
import Derived.Test.YbulkcoguDoorPlace
namespace Go.Proofs.YbulkcoguDoor
open Go.RowKit Go.Deep
set_option linter.unusedVariables false
set_option linter.unusedSimpArgs false

/-- One more reader is left for each of l. -/
def back (l : List Nat) (f : Nat → Int) : Nat → Int := l.foldl (fun f g => put f g (f g + 1)) f

theorem back_snoc (l : List Nat) (g : Nat) (f : Nat → Int) : back (l ++ [g]) f = put (back l f) g (back l f g + 1) := by simp [back]

theorem back_bound : ∀ (l : List Nat) (f : Nat → Int) (u : Nat), f u ≤ back l f u ∧ back l f u ≤ f u + l.length := by
  intro l
  induction l with
  | nil => intro f u; simp [back]
  | cons g l ih =>
    intro f u
    show _ ≤ back l (put f g (f g + 1)) u ∧ back l (put f g (f g + 1)) u ≤ _
    have h1 := ih (put f g (f g + 1)) u
    have h2 : f u ≤ put f g (f g + 1) u ∧ put f g (f g + 1) u ≤ f u + 1 := by
      unfold put
      split
      · rename_i e; subst e; omega
      · omega
    simp only [List.length_cons]
    omega

/-- What unplace does while recording. -/
structure Unplaced (L : Lay) (p0 m0 e0 t0 : List Nat) (was i : Nat) (st st' : St) : Prop where
  live : st'.live = was
  wt : st'.wt = given L.add st.wt (ones 9 (gone was st.live))
  lf : st'.lf = back (L.rd i) st.lf
  tr : st'.tr = t0
  pl : st'.pl = p0
  mks : st'.mks = m0
  ems : st'.ems = e0
  rc : st'.rc = true
  fo : st'.fo = st.fo

theorem last_form {w : World} {base : Nat} {v : Value} {xs : List Nat} {x k : Nat} (h : w.ownsRow base 3 1 v (xs ++ [x]).length ((xs ++ [x]).map encI)) (hk : xs.length = k) : ∃ g cap, v = .slice (some ⟨g, 0, none⟩) (k + 1) cap ∧ k + 1 ≤ cap ∧ w.cell? ⟨g, k, none⟩ = some (.int .i64 x) := by
  rcases h.2 with ⟨h1, h2⟩ | ⟨g, cap, cur, h1, h2, h3, h4, h5, h6, h7⟩
  · simp at h2
  · refine ⟨g, cap, by rw [h1]; simp [hk], by simp [hk] at h4; omega, ?_⟩
    have hc := h.cells (g := g) (by rw [h1]; rfl) k (encI x) (by simp [← hk])
    rw [Addr.add_lit] at hc
    simpa [encI] using hc

set_option maxRecDepth 100000 in
set_option maxHeartbeats 4000000 in
/-- k.unplace(i) while recording. -/
theorem unplace_rec {L : Lay} (G : Good L) {st : St} {w : World} (h : Sta L st w) (hrc : st.rc = true) (p0 m0 e0 t0 : List Nat) (was i k : Nat) (hi : i < L.m) (hpl : st.pl = p0 ++ [i]) (hmk : st.mks = m0 ++ [t0.length]) (hem : st.ems = e0 ++ [0]) (htr : st.tr = t0 ++ [was])
    (hp0 : p0.length = k) (hm0 : m0.length = k) (he0 : e0.length = k) (hk : k ≤ 90) (hl : t0.length ≤ 90) (hwas : was < 2 ^ L.n) (hlv : st.live < 512) (htk : st.taken ≤ 900000) (hwt : ∀ u, u < L.n → -900 ≤ st.wt u ∧ st.wt u ≤ 900) (hlf : ∀ g, g < L.s → -900 ≤ st.lf g ∧ st.lf g ≤ 900) :
    Calls Ybad.prog 8 #[.pointer (some ⟨L.K, 0, none⟩), .int .i64 i] w fun e w' => e = .returned (.tuple #[]) ∧ ∃ st', Sta L st' w' ∧ Unplaced L p0 m0 e0 t0 was i st st' := by
  have k20 := h.core.kd 20 _ rfl
  rw [hrc] at k20
  have hrp := h.rest.rp
  rw [hpl] at hrp
  have hrm := h.rest.rm
  rw [hmk] at hrm
  have hre := h.rest.re
  rw [hem] at hre
  obtain ⟨gp, cp, hvp, hcp, _⟩ := last_form hrp hp0
  obtain ⟨gm, cm, hvm, hcm, _⟩ := last_form hrm hm0
  obtain ⟨ge, ce, hve, hce, _⟩ := last_form hre he0
  clear hrp hrm hre
  have HDR : Hid (Calls Ybad.prog 15 #[.pointer (some ⟨L.K, 0, none⟩)] w fun e w' => e = .returned (.tuple #[]) ∧ w' = w) := drop_any G w h.core.fix
  have hcutP := h.cutP G hvp (k := k) (by rw [hpl]; simp; omega)
  have k17 := h.core.kd 17 _ rfl
  have f17 := h.fK G 17
  obtain ⟨k1, hk1⟩ : ∃ x, k + 1 = x := ⟨_, rfl⟩
  rw [hvp] at k17
  have HVM : Hid (st.vm = .slice (some ⟨gm, 0, none⟩) k1 cm) := by rw [← hk1]; exact hvm
  have HVE : Hid (st.ve = .slice (some ⟨ge, 0, none⟩) k1 ce) := by rw [← hk1]; exact hve
  rw [hk1] at k17
  have hkI : (k1 : Int) - 1 = (k : Int) := by omega
  have hwk : IntKind.i64.wrap (k : Int) = k := by rw [IntKind.wrap_i64]; omega
  have hk0 : (0 : Int) ≤ (k : Int) := by omega
  have hkk1 : (k : Int) < (k1 : Int) := by omega
  have hkk2 : k < k1 := by omega
  have hp1 : (k : Int) ≤ (cp : Int) := by omega
  have hp2 : decide ((k : Int) ≤ (cp : Int)) = true := by simp; omega
  have hp3 : k ≤ cp := by omega
  have hm1 : (k : Int) ≤ (cm : Int) := by omega
  have hm2 : decide ((k : Int) ≤ (cm : Int)) = true := by simp; omega
  have hm3 : k ≤ cm := by omega
  have he1 : (k : Int) ≤ (ce : Int) := by omega
  have he2 : decide ((k : Int) ≤ (ce : Int)) = true := by simp; omega
  have he3 : k ≤ ce := by omega
  have HE : Hid (st.pl = p0 ++ [i] ∧ st.mks = m0 ++ [t0.length] ∧ st.ems = e0 ++ [0] ∧ st.tr = t0 ++ [was] ∧ p0.length = k ∧ m0.length = k ∧ e0.length = k) := ⟨hpl, hmk, hem, htr, hp0, hm0, he0⟩
  have HRC : Hid (st.rc = true) := hrc
  have HCUT : Hid (Sta L { st with pl := st.pl.take k, vp := .slice (some ⟨gp, 0, none⟩) k cp } (w.setCell ⟨L.K, 17, none⟩ (.slice (some ⟨gp, 0, none⟩) k cp))) := hcutP
  have HB : Hid (t0.length ≤ 90 ∧ was < 2 ^ L.n ∧ st.live < 512 ∧ st.taken ≤ 900000 ∧ (∀ u, u < L.n → -900 ≤ st.wt u ∧ st.wt u ≤ 900)) := ⟨hl, hwas, hlv, htk, hwt⟩
  have HLF : Hid (∀ g, g < L.s → -900 ≤ st.lf g ∧ st.lf g ≤ 900) := hlf
  clear h hpl hmk hem htr hp0 hm0 he0 hrc hcutP hvp hvm hve hcp hcm hce hk1 hl hwas hlv htk hwt hlf
  go_enter Ybad.func8, Ybad.ntmps8
  go_wp2_with (first | (go_at_call 15; refine HDR.out.mono ?_; rintro _ wf ⟨rfl, hwf⟩; rw [hwf]; clear hwf))
  refine wp_region_L (fun w' => w'.cell? ⟨L.K, 17, none⟩ = some (.slice (some ⟨gp, 0, none⟩) k1 cp) ∧ w'.frozen? ⟨L.K, 17, none⟩ = false) 14 15 (by kernel_rfl) (by kernel_rfl) ?_
  have HS3 : Hid ((fun w' : World => w'.cell? ⟨L.K, 17, none⟩ = some (.slice (some ⟨gp, 0, none⟩) k1 cp) ∧ w'.frozen? ⟨L.K, 17, none⟩ = false) w.drew) := ⟨k17, f17⟩
  refine wpU_take (i := 0) (v := ?_) rfl (by kernel_rfl) (by kernel_rfl) (by kernel_rfl) (by kernel_rfl) (fun _ _ _ h => h) (by rfl) ?_ HS3.out ?_
  rotate_left
  · (intro wS hwS; (try dsimp only at hwS); go_simp; try with_reducible rfl)
  simp only [Act.put, List.getElem_toArray, List.getElem_cons_zero, List.getElem_cons_succ, List.setIfInBounds_toArray, List.set_cons_zero, List.set_cons_succ]
  refine wpU_take (i := 1) (v := ?_) rfl (by kernel_rfl) (by kernel_rfl) (by kernel_rfl) (by kernel_rfl) (fun _ _ _ h => h) (by rfl) ?_ HS3.out ?_
  rotate_left
  · (intro wS hwS; (try dsimp only at hwS); go_simp; try with_reducible rfl)
  simp only [Act.put, List.getElem_toArray, List.getElem_cons_zero, List.getElem_cons_succ, List.setIfInBounds_toArray, List.set_cons_zero, List.set_cons_succ]
  refine wpU_take (i := 2) (v := ?_) rfl (by kernel_rfl) (by kernel_rfl) (by kernel_rfl) (by kernel_rfl) (fun _ _ _ h => h) (by rfl) ?_ HS3.out ?_
  rotate_left
  · (intro wS hwS; (try dsimp only at hwS); go_simp; try with_reducible rfl)
  simp only [Act.put, List.getElem_toArray, List.getElem_cons_zero, List.getElem_cons_succ, List.setIfInBounds_toArray, List.set_cons_zero, List.set_cons_succ]
  refine wpU_take (i := 3) (v := ?_) rfl (by kernel_rfl) (by kernel_rfl) (by kernel_rfl) (by kernel_rfl) (fun _ _ _ h => h) (by rfl) ?_ HS3.out ?_
  rotate_left
  · (intro wS hwS; (try dsimp only at hwS); go_simp; try with_reducible rfl)
  simp only [Act.put, List.getElem_toArray, List.getElem_cons_zero, List.getElem_cons_succ, List.setIfInBounds_toArray, List.set_cons_zero, List.set_cons_succ]
  refine wpU_take (i := 4) (v := ?_) rfl (by kernel_rfl) (by kernel_rfl) (by kernel_rfl) (by kernel_rfl) (fun _ _ _ h => h) (by rfl) ?_ HS3.out ?_
  rotate_left
  · (intro wS hwS; (try dsimp only at hwS); go_simp; try with_reducible rfl)
  simp only [Act.put, List.getElem_toArray, List.getElem_cons_zero, List.getElem_cons_succ, List.setIfInBounds_toArray, List.set_cons_zero, List.set_cons_succ]
  refine wpU_take (i := 5) (v := ?_) rfl (by kernel_rfl) (by kernel_rfl) (by kernel_rfl) (by kernel_rfl) (fun _ _ _ h => h) (by rfl) ?_ HS3.out ?_
  rotate_left
  · (intro wS hwS; (try dsimp only at hwS); go_simp; try with_reducible rfl)
  simp only [Act.put, List.getElem_toArray, List.getElem_cons_zero, List.getElem_cons_succ, List.setIfInBounds_toArray, List.set_cons_zero, List.set_cons_succ]
  refine wpU_take (i := 6) (v := ?_) rfl (by kernel_rfl) (by kernel_rfl) (by kernel_rfl) (by kernel_rfl) (fun _ _ _ h => h) (by rfl) ?_ HS3.out ?_
  rotate_left
  · (intro wS hwS; (try dsimp only at hwS); go_simp; try with_reducible rfl)
  simp only [Act.put, List.getElem_toArray, List.getElem_cons_zero, List.getElem_cons_succ, List.setIfInBounds_toArray, List.set_cons_zero, List.set_cons_succ]
  refine wpU_take (i := 7) (v := ?_) rfl (by kernel_rfl) (by kernel_rfl) (by kernel_rfl) (by kernel_rfl) (fun _ _ _ h => h) (by rfl) ?_ HS3.out ?_
  rotate_left
  · (intro wS hwS; (try dsimp only at hwS); go_simp; try with_reducible rfl)
  simp only [Act.put, List.getElem_toArray, List.getElem_cons_zero, List.getElem_cons_succ, List.setIfInBounds_toArray, List.set_cons_zero, List.set_cons_succ]
  refine wpU_take (i := 8) (v := ?_) rfl (by kernel_rfl) (by kernel_rfl) (by kernel_rfl) (by kernel_rfl) (fun _ _ _ h => h) (by rfl) ?_ HS3.out ?_
  rotate_left
  · (intro wS hwS; (try dsimp only at hwS); go_simp; try with_reducible rfl)
  simp only [Act.put, List.getElem_toArray, List.getElem_cons_zero, List.getElem_cons_succ, List.setIfInBounds_toArray, List.set_cons_zero, List.set_cons_succ]
  refine wpU_take (i := 9) (v := ?_) rfl (by kernel_rfl) (by kernel_rfl) (by kernel_rfl) (by kernel_rfl) (fun _ _ _ h => h) (by rfl) ?_ HS3.out ?_
  rotate_left
  · (intro wS hwS; (try dsimp only at hwS); go_simp; try with_reducible rfl)
  simp only [Act.put, List.getElem_toArray, List.getElem_cons_zero, List.getElem_cons_succ, List.setIfInBounds_toArray, List.set_cons_zero, List.set_cons_succ]
  refine wpU_take (i := 10) (v := ?_) rfl (by kernel_rfl) (by kernel_rfl) (by kernel_rfl) (by kernel_rfl) (fun _ _ _ h => h) (by rfl) ?_ HS3.out ?_
  rotate_left
  · (intro wS hwS; (try dsimp only at hwS); go_simp; try with_reducible rfl)
  simp only [Act.put, List.getElem_toArray, List.getElem_cons_zero, List.getElem_cons_succ, List.setIfInBounds_toArray, List.set_cons_zero, List.set_cons_succ]
  refine wpU_take (i := 11) (v := ?_) rfl (by kernel_rfl) (by kernel_rfl) (by kernel_rfl) (by kernel_rfl) (fun _ _ _ h => h) (by rfl) ?_ HS3.out ?_
  rotate_left
  · (intro wS hwS; (try dsimp only at hwS); go_simp; try with_reducible rfl)
  simp only [Act.put, List.getElem_toArray, List.getElem_cons_zero, List.getElem_cons_succ, List.setIfInBounds_toArray, List.set_cons_zero, List.set_cons_succ]
  refine wpU_take (i := 12) (v := ?_) rfl (by kernel_rfl) (by kernel_rfl) (by kernel_rfl) (by kernel_rfl) (fun _ _ _ h => h) (by rfl) ?_ HS3.out ?_
  rotate_left
  · (intro wS hwS; (try dsimp only at hwS); go_simp; try with_reducible rfl)
  simp only [Act.put, List.getElem_toArray, List.getElem_cons_zero, List.getElem_cons_succ, List.setIfInBounds_toArray, List.set_cons_zero, List.set_cons_succ]
  refine wpU_take (i := 13) (v := ?_) rfl (by kernel_rfl) (by kernel_rfl) (by kernel_rfl) (by kernel_rfl) (fun _ _ _ h => h) (by rfl) ?_ HS3.out ?_
  rotate_left
  · (intro wS hwS; (try dsimp only at hwS); go_simp; try with_reducible rfl)
  simp only [Act.put, List.getElem_toArray, List.getElem_cons_zero, List.getElem_cons_succ, List.setIfInBounds_toArray, List.set_cons_zero, List.set_cons_succ]
  refine wpL_one (i := 14) (by kernel_rfl) rfl (fun K hK => ?_)
  simp only [List.getElem_toArray, List.getElem_cons_zero, List.getElem_cons_succ]
  go_simp
  refine hK.out _ _ (fun h => absurd rfl h) ?_
  clear hK K
  refine wpL_done (by kernel_rfl) ?_ _
  obtain ⟨W1, hW1⟩ : ∃ W, W = (w.setCell ⟨L.K, 17, none⟩ (.slice (some ⟨gp, 0, none⟩) k cp)).drew := ⟨_, rfl⟩
  have hS1 : Sta L { st with pl := st.pl.take k, vp := .slice (some ⟨gp, 0, none⟩) k cp } W1 := by rw [hW1]; exact HCUT.out.drewN 1
  rw [← hW1]
  obtain ⟨st1, hS1', he1'⟩ : ∃ st1, Sta L st1 W1 ∧ (st1.live = st.live ∧ st1.wt = st.wt ∧ st1.lf = st.lf ∧ st1.taken = st.taken ∧ st1.pl = p0 ∧ st1.mks = m0 ++ [t0.length] ∧ st1.ems = e0 ++ [0] ∧ st1.tr = t0 ++ [was] ∧ st1.rc = true ∧ st1.fo = st.fo ∧ st1.vm = .slice (some ⟨gm, 0, none⟩) k1 cm ∧ st1.ve = .slice (some ⟨ge, 0, none⟩) k1 ce) := by
    obtain ⟨a1, a2, a3, a4, a5, a6, a7⟩ := HE.out
    refine ⟨_, hS1, rfl, rfl, rfl, rfl, ?_, a2, a3, a4, HRC.out, rfl, HVM.out, HVE.out⟩
    show st.pl.take k = p0
    rw [a1, ← a5]
    simp
  clear hS1 hW1 HCUT HDR k17 f17 k20 HS3
  obtain ⟨z1, z2, z3, z4, z5, z6, z7, z8, z9, z10, z11, z12⟩ := he1'
  obtain ⟨b1, b2, b3, b4, b5⟩ := HB.out
  have HUN : Hid (Calls Ybad.prog 17 #[.pointer (some ⟨L.K, 0, none⟩), .int .i64 t0.length] W1.drew fun e w' => e = .returned (.tuple #[]) ∧ ∃ st', Sta L st' w' ∧ Undone L t0 was st1 st') :=
    undo_any G (hS1'.drewN 1) z9 t0 was z8 b1 b2 (by rw [z1]; exact b3) (by rw [z4]; exact b4) (by rw [z2]; exact b5)
  have k21 := hS1'.core.kd 21 _ rfl
  rw [z11] at k21
  have hrm := hS1'.rest.rm
  rw [z6] at hrm
  have cM : W1.cell? ⟨gm, k, none⟩ = some (.int .i64 t0.length) := by
    obtain ⟨g', cap', h1, _, h3⟩ := last_form hrm HE.out.2.2.2.2.2.1
    rw [z11] at h1
    cases h1
    exact h3
  have HZ1 : Hid (st1.live = st.live ∧ st1.wt = st.wt ∧ st1.lf = st.lf ∧ st1.taken = st.taken ∧ st1.pl = p0 ∧ st1.mks = m0 ++ [t0.length] ∧ st1.ems = e0 ++ [0] ∧ st1.tr = t0 ++ [was] ∧ st1.rc = true ∧ st1.fo = st.fo ∧ st1.vm = .slice (some ⟨gm, 0, none⟩) k1 cm ∧ st1.ve = .slice (some ⟨ge, 0, none⟩) k1 ce) := ⟨z1, z2, z3, z4, z5, z6, z7, z8, z9, z10, z11, z12⟩
  obtain ⟨tl, htl⟩ : ∃ x, t0.length = x := ⟨_, rfl⟩
  rw [htl] at cM HUN
  clear hrm z1 z2 z3 z4 z5 z6 z7 z8 z9 z10 z11 z12 hS1' htl b1 b2 b3 b4 b5
  go_wp2
  refine wp_region_L (fun w' => w'.cell? ⟨L.K, 21, none⟩ = some (.slice (some ⟨gm, 0, none⟩) k1 cm) ∧ w'.cell? ⟨gm, k, none⟩ = some (.int .i64 tl)) 13 14 (by kernel_rfl) (by kernel_rfl) ?_
  have HS4 : Hid ((fun w' : World => w'.cell? ⟨L.K, 21, none⟩ = some (.slice (some ⟨gm, 0, none⟩) k1 cm) ∧ w'.cell? ⟨gm, k, none⟩ = some (.int .i64 tl)) W1.drew) := ⟨k21, cM⟩
  refine wpU_take (i := 0) (v := ?_) rfl (by kernel_rfl) (by kernel_rfl) (by kernel_rfl) (by kernel_rfl) (fun _ _ _ h => h) (by rfl) ?_ HS4.out ?_
  rotate_left
  · (intro wS hwS; (try dsimp only at hwS); go_simp; try with_reducible rfl)
  simp only [Act.put, List.getElem_toArray, List.getElem_cons_zero, List.getElem_cons_succ, List.setIfInBounds_toArray, List.set_cons_zero, List.set_cons_succ]
  refine wpU_take (i := 1) (v := ?_) rfl (by kernel_rfl) (by kernel_rfl) (by kernel_rfl) (by kernel_rfl) (fun _ _ _ h => h) (by rfl) ?_ HS4.out ?_
  rotate_left
  · (intro wS hwS; (try dsimp only at hwS); go_simp; try with_reducible rfl)
  simp only [Act.put, List.getElem_toArray, List.getElem_cons_zero, List.getElem_cons_succ, List.setIfInBounds_toArray, List.set_cons_zero, List.set_cons_succ]
  refine wpU_take (i := 2) (v := ?_) rfl (by kernel_rfl) (by kernel_rfl) (by kernel_rfl) (by kernel_rfl) (fun _ _ _ h => h) (by rfl) ?_ HS4.out ?_
  rotate_left
  · (intro wS hwS; (try dsimp only at hwS); go_simp; try with_reducible rfl)
  simp only [Act.put, List.getElem_toArray, List.getElem_cons_zero, List.getElem_cons_succ, List.setIfInBounds_toArray, List.set_cons_zero, List.set_cons_succ]
  refine wpU_take (i := 3) (v := ?_) rfl (by kernel_rfl) (by kernel_rfl) (by kernel_rfl) (by kernel_rfl) (fun _ _ _ h => h) (by rfl) ?_ HS4.out ?_
  rotate_left
  · (intro wS hwS; (try dsimp only at hwS); go_simp; try with_reducible rfl)
  simp only [Act.put, List.getElem_toArray, List.getElem_cons_zero, List.getElem_cons_succ, List.setIfInBounds_toArray, List.set_cons_zero, List.set_cons_succ]
  refine wpU_take (i := 4) (v := ?_) rfl (by kernel_rfl) (by kernel_rfl) (by kernel_rfl) (by kernel_rfl) (fun _ _ _ h => h) (by rfl) ?_ HS4.out ?_
  rotate_left
  · (intro wS hwS; (try dsimp only at hwS); go_simp; try with_reducible rfl)
  simp only [Act.put, List.getElem_toArray, List.getElem_cons_zero, List.getElem_cons_succ, List.setIfInBounds_toArray, List.set_cons_zero, List.set_cons_succ]
  refine wpU_take (i := 5) (v := ?_) rfl (by kernel_rfl) (by kernel_rfl) (by kernel_rfl) (by kernel_rfl) (fun _ _ _ h => h) (by rfl) ?_ HS4.out ?_
  rotate_left
  · (intro wS hwS; (try dsimp only at hwS); go_simp; try with_reducible rfl)
  simp only [Act.put, List.getElem_toArray, List.getElem_cons_zero, List.getElem_cons_succ, List.setIfInBounds_toArray, List.set_cons_zero, List.set_cons_succ]
  refine wpU_take (i := 6) (v := ?_) rfl (by kernel_rfl) (by kernel_rfl) (by kernel_rfl) (by kernel_rfl) (fun _ _ _ h => h) (by rfl) ?_ HS4.out ?_
  rotate_left
  · (intro wS hwS; (try dsimp only at hwS); go_simp; try with_reducible rfl)
  simp only [Act.put, List.getElem_toArray, List.getElem_cons_zero, List.getElem_cons_succ, List.setIfInBounds_toArray, List.set_cons_zero, List.set_cons_succ]
  refine wpU_take (i := 7) (v := ?_) rfl (by kernel_rfl) (by kernel_rfl) (by kernel_rfl) (by kernel_rfl) (fun _ _ _ h => h) (by rfl) ?_ HS4.out ?_
  rotate_left
  · (intro wS hwS; (try dsimp only at hwS); go_simp; try with_reducible rfl)
  simp only [Act.put, List.getElem_toArray, List.getElem_cons_zero, List.getElem_cons_succ, List.setIfInBounds_toArray, List.set_cons_zero, List.set_cons_succ]
  refine wpU_take (i := 8) (v := ?_) rfl (by kernel_rfl) (by kernel_rfl) (by kernel_rfl) (by kernel_rfl) (fun _ _ _ h => h) (by rfl) ?_ HS4.out ?_
  rotate_left
  · (intro wS hwS; (try dsimp only at hwS); go_simp; try with_reducible rfl)
  simp only [Act.put, List.getElem_toArray, List.getElem_cons_zero, List.getElem_cons_succ, List.setIfInBounds_toArray, List.set_cons_zero, List.set_cons_succ]
  refine wpU_take (i := 9) (v := ?_) rfl (by kernel_rfl) (by kernel_rfl) (by kernel_rfl) (by kernel_rfl) (fun _ _ _ h => h) (by rfl) ?_ HS4.out ?_
  rotate_left
  · (intro wS hwS; (try dsimp only at hwS); go_simp; try with_reducible rfl)
  simp only [Act.put, List.getElem_toArray, List.getElem_cons_zero, List.getElem_cons_succ, List.setIfInBounds_toArray, List.set_cons_zero, List.set_cons_succ]
  refine wpU_take (i := 10) (v := ?_) rfl (by kernel_rfl) (by kernel_rfl) (by kernel_rfl) (by kernel_rfl) (fun _ _ _ h => h) (by rfl) ?_ HS4.out ?_
  rotate_left
  · (intro wS hwS; (try dsimp only at hwS); go_simp; try with_reducible rfl)
  simp only [Act.put, List.getElem_toArray, List.getElem_cons_zero, List.getElem_cons_succ, List.setIfInBounds_toArray, List.set_cons_zero, List.set_cons_succ]
  refine wpU_take (i := 11) (v := ?_) rfl (by kernel_rfl) (by kernel_rfl) (by kernel_rfl) (by kernel_rfl) (fun _ _ _ h => h) (by rfl) ?_ HS4.out ?_
  rotate_left
  · (intro wS hwS; (try dsimp only at hwS); go_simp; try with_reducible rfl)
  simp only [Act.put, List.getElem_toArray, List.getElem_cons_zero, List.getElem_cons_succ, List.setIfInBounds_toArray, List.set_cons_zero, List.set_cons_succ]
  refine wpU_take (i := 12) (v := ?_) rfl (by kernel_rfl) (by kernel_rfl) (by kernel_rfl) (by kernel_rfl) (fun _ _ _ h => h) (by rfl) ?_ HS4.out ?_
  rotate_left
  · (intro wS hwS; (try dsimp only at hwS); go_simp; try with_reducible rfl)
  simp only [Act.put, List.getElem_toArray, List.getElem_cons_zero, List.getElem_cons_succ, List.setIfInBounds_toArray, List.set_cons_zero, List.set_cons_succ]
  refine wpL_one (i := 13) (by kernel_rfl) rfl (fun K hK => ?_)
  simp only [List.getElem_toArray, List.getElem_cons_zero, List.getElem_cons_succ]
  go_simp
  refine HUN.out.mono ?_
  rintro _ W2 ⟨rfl, st2, hS2, hu2⟩
  refine hK.out _ _ (fun h => absurd rfl h) ?_
  clear hK K
  refine wpL_done (by kernel_rfl) ?_ _
  obtain ⟨z1, z2, z3, z4, z5, z6, z7, z8, z9, z10, z11, z12⟩ := HZ1.out
  have y11 : st2.vm = .slice (some ⟨gm, 0, none⟩) k1 cm := hu2.vm.trans z11
  have k21 := hS2.core.kd 21 _ rfl
  have f21 := hS2.fK G 21
  rw [y11] at k21
  have HCUT : Hid (Sta L { st2 with mks := st2.mks.take k, vm := .slice (some ⟨gm, 0, none⟩) k cm } (W2.setCell ⟨L.K, 21, none⟩ (.slice (some ⟨gm, 0, none⟩) k cm))) := hS2.cutM G y11 (by rw [hu2.mks, z6]; simp; have := HE.out.2.2.2.2.2.1; omega)
  have HU2 : Hid (Undone L t0 was st1 st2) := hu2
  clear cM HUN HS4 hS2 hu2 z1 z2 z3 z4 z5 z6 z7 z8 z9 z10 z11 z12 y11
  go_wp2
  refine wp_region_L (fun w' => w'.cell? ⟨L.K, 21, none⟩ = some (.slice (some ⟨gm, 0, none⟩) k1 cm) ∧ w'.frozen? ⟨L.K, 21, none⟩ = false) 14 15 (by kernel_rfl) (by kernel_rfl) ?_
  have HS5 : Hid ((fun w' : World => w'.cell? ⟨L.K, 21, none⟩ = some (.slice (some ⟨gm, 0, none⟩) k1 cm) ∧ w'.frozen? ⟨L.K, 21, none⟩ = false) W2.drew) := ⟨k21, f21⟩
  refine wpU_take (i := 0) (v := ?_) rfl (by kernel_rfl) (by kernel_rfl) (by kernel_rfl) (by kernel_rfl) (fun _ _ _ h => h) (by rfl) ?_ HS5.out ?_
  rotate_left
  · (intro wS hwS; (try dsimp only at hwS); go_simp; try with_reducible rfl)
  simp only [Act.put, List.getElem_toArray, List.getElem_cons_zero, List.getElem_cons_succ, List.setIfInBounds_toArray, List.set_cons_zero, List.set_cons_succ]
  refine wpU_take (i := 1) (v := ?_) rfl (by kernel_rfl) (by kernel_rfl) (by kernel_rfl) (by kernel_rfl) (fun _ _ _ h => h) (by rfl) ?_ HS5.out ?_
  rotate_left
  · (intro wS hwS; (try dsimp only at hwS); go_simp; try with_reducible rfl)
  simp only [Act.put, List.getElem_toArray, List.getElem_cons_zero, List.getElem_cons_succ, List.setIfInBounds_toArray, List.set_cons_zero, List.set_cons_succ]
  refine wpU_take (i := 2) (v := ?_) rfl (by kernel_rfl) (by kernel_rfl) (by kernel_rfl) (by kernel_rfl) (fun _ _ _ h => h) (by rfl) ?_ HS5.out ?_
  rotate_left
  · (intro wS hwS; (try dsimp only at hwS); go_simp; try with_reducible rfl)
  simp only [Act.put, List.getElem_toArray, List.getElem_cons_zero, List.getElem_cons_succ, List.setIfInBounds_toArray, List.set_cons_zero, List.set_cons_succ]
  refine wpU_take (i := 3) (v := ?_) rfl (by kernel_rfl) (by kernel_rfl) (by kernel_rfl) (by kernel_rfl) (fun _ _ _ h => h) (by rfl) ?_ HS5.out ?_
  rotate_left
  · (intro wS hwS; (try dsimp only at hwS); go_simp; try with_reducible rfl)
  simp only [Act.put, List.getElem_toArray, List.getElem_cons_zero, List.getElem_cons_succ, List.setIfInBounds_toArray, List.set_cons_zero, List.set_cons_succ]
  refine wpU_take (i := 4) (v := ?_) rfl (by kernel_rfl) (by kernel_rfl) (by kernel_rfl) (by kernel_rfl) (fun _ _ _ h => h) (by rfl) ?_ HS5.out ?_
  rotate_left
  · (intro wS hwS; (try dsimp only at hwS); go_simp; try with_reducible rfl)
  simp only [Act.put, List.getElem_toArray, List.getElem_cons_zero, List.getElem_cons_succ, List.setIfInBounds_toArray, List.set_cons_zero, List.set_cons_succ]
  refine wpU_take (i := 5) (v := ?_) rfl (by kernel_rfl) (by kernel_rfl) (by kernel_rfl) (by kernel_rfl) (fun _ _ _ h => h) (by rfl) ?_ HS5.out ?_
  rotate_left
  · (intro wS hwS; (try dsimp only at hwS); go_simp; try with_reducible rfl)
  simp only [Act.put, List.getElem_toArray, List.getElem_cons_zero, List.getElem_cons_succ, List.setIfInBounds_toArray, List.set_cons_zero, List.set_cons_succ]
  refine wpU_take (i := 6) (v := ?_) rfl (by kernel_rfl) (by kernel_rfl) (by kernel_rfl) (by kernel_rfl) (fun _ _ _ h => h) (by rfl) ?_ HS5.out ?_
  rotate_left
  · (intro wS hwS; (try dsimp only at hwS); go_simp; try with_reducible rfl)
  simp only [Act.put, List.getElem_toArray, List.getElem_cons_zero, List.getElem_cons_succ, List.setIfInBounds_toArray, List.set_cons_zero, List.set_cons_succ]
  refine wpU_take (i := 7) (v := ?_) rfl (by kernel_rfl) (by kernel_rfl) (by kernel_rfl) (by kernel_rfl) (fun _ _ _ h => h) (by rfl) ?_ HS5.out ?_
  rotate_left
  · (intro wS hwS; (try dsimp only at hwS); go_simp; try with_reducible rfl)
  simp only [Act.put, List.getElem_toArray, List.getElem_cons_zero, List.getElem_cons_succ, List.setIfInBounds_toArray, List.set_cons_zero, List.set_cons_succ]
  refine wpU_take (i := 8) (v := ?_) rfl (by kernel_rfl) (by kernel_rfl) (by kernel_rfl) (by kernel_rfl) (fun _ _ _ h => h) (by rfl) ?_ HS5.out ?_
  rotate_left
  · (intro wS hwS; (try dsimp only at hwS); go_simp; try with_reducible rfl)
  simp only [Act.put, List.getElem_toArray, List.getElem_cons_zero, List.getElem_cons_succ, List.setIfInBounds_toArray, List.set_cons_zero, List.set_cons_succ]
  refine wpU_take (i := 9) (v := ?_) rfl (by kernel_rfl) (by kernel_rfl) (by kernel_rfl) (by kernel_rfl) (fun _ _ _ h => h) (by rfl) ?_ HS5.out ?_
  rotate_left
  · (intro wS hwS; (try dsimp only at hwS); go_simp; try with_reducible rfl)
  simp only [Act.put, List.getElem_toArray, List.getElem_cons_zero, List.getElem_cons_succ, List.setIfInBounds_toArray, List.set_cons_zero, List.set_cons_succ]
  refine wpU_take (i := 10) (v := ?_) rfl (by kernel_rfl) (by kernel_rfl) (by kernel_rfl) (by kernel_rfl) (fun _ _ _ h => h) (by rfl) ?_ HS5.out ?_
  rotate_left
  · (intro wS hwS; (try dsimp only at hwS); go_simp; try with_reducible rfl)
  simp only [Act.put, List.getElem_toArray, List.getElem_cons_zero, List.getElem_cons_succ, List.setIfInBounds_toArray, List.set_cons_zero, List.set_cons_succ]
  refine wpU_take (i := 11) (v := ?_) rfl (by kernel_rfl) (by kernel_rfl) (by kernel_rfl) (by kernel_rfl) (fun _ _ _ h => h) (by rfl) ?_ HS5.out ?_
  rotate_left
  · (intro wS hwS; (try dsimp only at hwS); go_simp; try with_reducible rfl)
  simp only [Act.put, List.getElem_toArray, List.getElem_cons_zero, List.getElem_cons_succ, List.setIfInBounds_toArray, List.set_cons_zero, List.set_cons_succ]
  refine wpU_take (i := 12) (v := ?_) rfl (by kernel_rfl) (by kernel_rfl) (by kernel_rfl) (by kernel_rfl) (fun _ _ _ h => h) (by rfl) ?_ HS5.out ?_
  rotate_left
  · (intro wS hwS; (try dsimp only at hwS); go_simp; try with_reducible rfl)
  simp only [Act.put, List.getElem_toArray, List.getElem_cons_zero, List.getElem_cons_succ, List.setIfInBounds_toArray, List.set_cons_zero, List.set_cons_succ]
  refine wpU_take (i := 13) (v := ?_) rfl (by kernel_rfl) (by kernel_rfl) (by kernel_rfl) (by kernel_rfl) (fun _ _ _ h => h) (by rfl) ?_ HS5.out ?_
  rotate_left
  · (intro wS hwS; (try dsimp only at hwS); go_simp; try with_reducible rfl)
  simp only [Act.put, List.getElem_toArray, List.getElem_cons_zero, List.getElem_cons_succ, List.setIfInBounds_toArray, List.set_cons_zero, List.set_cons_succ]
  refine wpL_one (i := 14) (by kernel_rfl) rfl (fun K hK => ?_)
  simp only [List.getElem_toArray, List.getElem_cons_zero, List.getElem_cons_succ]
  go_simp
  refine hK.out _ _ (fun h => absurd rfl h) ?_
  clear hK K
  refine wpL_done (by kernel_rfl) ?_ _
  obtain ⟨W3, hW3⟩ : ∃ W, W = (W2.setCell ⟨L.K, 21, none⟩ (.slice (some ⟨gm, 0, none⟩) k cm)).drew := ⟨_, rfl⟩
  have hS3 : Sta L { st2 with mks := st2.mks.take k, vm := .slice (some ⟨gm, 0, none⟩) k cm } W3 := by rw [hW3]; exact HCUT.out.drewN 1
  rw [← hW3]
  obtain ⟨st3, hS3', z1, z2, z3, z4, z5, z6, z7, z8, z9, z10⟩ : ∃ st3, Sta L st3 W3 ∧ (st3.live = was ∧ st3.wt = given L.add st.wt (ones 9 (gone was st.live)) ∧ st3.lf = st.lf ∧ st3.pl = p0 ∧ st3.mks = m0 ∧ st3.ems = e0 ++ [0] ∧ st3.tr = t0 ∧ st3.rc = true ∧ st3.fo = st.fo ∧ st3.ve = .slice (some ⟨ge, 0, none⟩) k1 ce) := by
    obtain ⟨z1, z2, z3, z4, z5, z6, z7, z8, z9, z10, z11, z12⟩ := HZ1.out
    have hu := HU2.out
    refine ⟨_, hS3, hu.live, ?_, hu.lf.trans z3, hu.pl.trans z5, ?_, hu.ems.trans z7, hu.tr, hu.rc.trans z9, hu.fo.trans z10, hu.ve.trans z12⟩
    · show st2.wt = _
      rw [hu.wt, z1, z2]
    · show st2.mks.take k = m0
      rw [hu.mks, z6, ← HE.out.2.2.2.2.2.1]
      simp
  have k38 := hS3'.core.kd 38 _ rfl
  rw [z10] at k38
  have hre := hS3'.rest.re
  rw [z6] at hre
  have cE : W3.cell? ⟨ge, k, none⟩ = some (.int .i64 0) := by
    obtain ⟨g', cap', h1, _, h3⟩ := last_form hre HE.out.2.2.2.2.2.2
    rw [z10] at h1
    cases h1
    exact h3
  have HFO : Hid (Calls Ybad.prog 18 #[.pointer (some ⟨L.K, 0, none⟩), .int .i64 0] W3.drew fun e w' => e = .returned (.tuple #[]) ∧ w' = W3.drew) := forget_any G W3.drew (hS3'.drewN 1).core.fix
  have HZ3 : Hid (st3.live = was ∧ st3.wt = given L.add st.wt (ones 9 (gone was st.live)) ∧ st3.lf = st.lf ∧ st3.pl = p0 ∧ st3.mks = m0 ∧ st3.ems = e0 ++ [0] ∧ st3.tr = t0 ∧ st3.rc = true ∧ st3.fo = st.fo ∧ st3.ve = .slice (some ⟨ge, 0, none⟩) k1 ce) := ⟨z1, z2, z3, z4, z5, z6, z7, z8, z9, z10⟩
  have HS3 : Hid (Sta L st3 W3) := hS3'
  clear hS3 hW3 HCUT HU2 HZ1 k21 f21 HS5 hre hS3' z1 z2 z3 z4 z5 z6 z7 z8 z9 z10
  have hw0 : IntKind.i64.wrap (0 : Int) = 0 := rfl
  go_wp2
  refine wp_region_L (fun w' => w'.cell? ⟨L.K, 38, none⟩ = some (.slice (some ⟨ge, 0, none⟩) k1 ce) ∧ w'.cell? ⟨ge, k, none⟩ = some (.int .i64 0)) 13 14 (by kernel_rfl) (by kernel_rfl) ?_
  have HS6 : Hid ((fun w' : World => w'.cell? ⟨L.K, 38, none⟩ = some (.slice (some ⟨ge, 0, none⟩) k1 ce) ∧ w'.cell? ⟨ge, k, none⟩ = some (.int .i64 0)) W3.drew) := ⟨k38, cE⟩
  refine wpU_take (i := 0) (v := ?_) rfl (by kernel_rfl) (by kernel_rfl) (by kernel_rfl) (by kernel_rfl) (fun _ _ _ h => h) (by rfl) ?_ HS6.out ?_
  rotate_left
  · (intro wS hwS; (try dsimp only at hwS); go_simp; try with_reducible rfl)
  simp only [Act.put, List.getElem_toArray, List.getElem_cons_zero, List.getElem_cons_succ, List.setIfInBounds_toArray, List.set_cons_zero, List.set_cons_succ]
  refine wpU_take (i := 1) (v := ?_) rfl (by kernel_rfl) (by kernel_rfl) (by kernel_rfl) (by kernel_rfl) (fun _ _ _ h => h) (by rfl) ?_ HS6.out ?_
  rotate_left
  · (intro wS hwS; (try dsimp only at hwS); go_simp; try with_reducible rfl)
  simp only [Act.put, List.getElem_toArray, List.getElem_cons_zero, List.getElem_cons_succ, List.setIfInBounds_toArray, List.set_cons_zero, List.set_cons_succ]
  refine wpU_take (i := 2) (v := ?_) rfl (by kernel_rfl) (by kernel_rfl) (by kernel_rfl) (by kernel_rfl) (fun _ _ _ h => h) (by rfl) ?_ HS6.out ?_
  rotate_left
  · (intro wS hwS; (try dsimp only at hwS); go_simp; try with_reducible rfl)
  simp only [Act.put, List.getElem_toArray, List.getElem_cons_zero, List.getElem_cons_succ, List.setIfInBounds_toArray, List.set_cons_zero, List.set_cons_succ]
  refine wpU_take (i := 3) (v := ?_) rfl (by kernel_rfl) (by kernel_rfl) (by kernel_rfl) (by kernel_rfl) (fun _ _ _ h => h) (by rfl) ?_ HS6.out ?_
  rotate_left
  · (intro wS hwS; (try dsimp only at hwS); go_simp; try with_reducible rfl)
  simp only [Act.put, List.getElem_toArray, List.getElem_cons_zero, List.getElem_cons_succ, List.setIfInBounds_toArray, List.set_cons_zero, List.set_cons_succ]
  refine wpU_take (i := 4) (v := ?_) rfl (by kernel_rfl) (by kernel_rfl) (by kernel_rfl) (by kernel_rfl) (fun _ _ _ h => h) (by rfl) ?_ HS6.out ?_
  rotate_left
  · (intro wS hwS; (try dsimp only at hwS); go_simp; try with_reducible rfl)
  simp only [Act.put, List.getElem_toArray, List.getElem_cons_zero, List.getElem_cons_succ, List.setIfInBounds_toArray, List.set_cons_zero, List.set_cons_succ]
  refine wpU_take (i := 5) (v := ?_) rfl (by kernel_rfl) (by kernel_rfl) (by kernel_rfl) (by kernel_rfl) (fun _ _ _ h => h) (by rfl) ?_ HS6.out ?_
  rotate_left
  · (intro wS hwS; (try dsimp only at hwS); go_simp; try with_reducible rfl)
  simp only [Act.put, List.getElem_toArray, List.getElem_cons_zero, List.getElem_cons_succ, List.setIfInBounds_toArray, List.set_cons_zero, List.set_cons_succ]
  refine wpU_take (i := 6) (v := ?_) rfl (by kernel_rfl) (by kernel_rfl) (by kernel_rfl) (by kernel_rfl) (fun _ _ _ h => h) (by rfl) ?_ HS6.out ?_
  rotate_left
  · (intro wS hwS; (try dsimp only at hwS); go_simp; try with_reducible rfl)
  simp only [Act.put, List.getElem_toArray, List.getElem_cons_zero, List.getElem_cons_succ, List.setIfInBounds_toArray, List.set_cons_zero, List.set_cons_succ]
  refine wpU_take (i := 7) (v := ?_) rfl (by kernel_rfl) (by kernel_rfl) (by kernel_rfl) (by kernel_rfl) (fun _ _ _ h => h) (by rfl) ?_ HS6.out ?_
  rotate_left
  · (intro wS hwS; (try dsimp only at hwS); go_simp; try with_reducible rfl)
  simp only [Act.put, List.getElem_toArray, List.getElem_cons_zero, List.getElem_cons_succ, List.setIfInBounds_toArray, List.set_cons_zero, List.set_cons_succ]
  refine wpU_take (i := 8) (v := ?_) rfl (by kernel_rfl) (by kernel_rfl) (by kernel_rfl) (by kernel_rfl) (fun _ _ _ h => h) (by rfl) ?_ HS6.out ?_
  rotate_left
  · (intro wS hwS; (try dsimp only at hwS); go_simp; try with_reducible rfl)
  simp only [Act.put, List.getElem_toArray, List.getElem_cons_zero, List.getElem_cons_succ, List.setIfInBounds_toArray, List.set_cons_zero, List.set_cons_succ]
  refine wpU_take (i := 9) (v := ?_) rfl (by kernel_rfl) (by kernel_rfl) (by kernel_rfl) (by kernel_rfl) (fun _ _ _ h => h) (by rfl) ?_ HS6.out ?_
  rotate_left
  · (intro wS hwS; (try dsimp only at hwS); go_simp; try with_reducible rfl)
  simp only [Act.put, List.getElem_toArray, List.getElem_cons_zero, List.getElem_cons_succ, List.setIfInBounds_toArray, List.set_cons_zero, List.set_cons_succ]
  refine wpU_take (i := 10) (v := ?_) rfl (by kernel_rfl) (by kernel_rfl) (by kernel_rfl) (by kernel_rfl) (fun _ _ _ h => h) (by rfl) ?_ HS6.out ?_
  rotate_left
  · (intro wS hwS; (try dsimp only at hwS); go_simp; try with_reducible rfl)
  simp only [Act.put, List.getElem_toArray, List.getElem_cons_zero, List.getElem_cons_succ, List.setIfInBounds_toArray, List.set_cons_zero, List.set_cons_succ]
  refine wpU_take (i := 11) (v := ?_) rfl (by kernel_rfl) (by kernel_rfl) (by kernel_rfl) (by kernel_rfl) (fun _ _ _ h => h) (by rfl) ?_ HS6.out ?_
  rotate_left
  · (intro wS hwS; (try dsimp only at hwS); go_simp; try with_reducible rfl)
  simp only [Act.put, List.getElem_toArray, List.getElem_cons_zero, List.getElem_cons_succ, List.setIfInBounds_toArray, List.set_cons_zero, List.set_cons_succ]
  refine wpU_take (i := 12) (v := ?_) rfl (by kernel_rfl) (by kernel_rfl) (by kernel_rfl) (by kernel_rfl) (fun _ _ _ h => h) (by rfl) ?_ HS6.out ?_
  rotate_left
  · (intro wS hwS; (try dsimp only at hwS); go_simp; try with_reducible rfl)
  simp only [Act.put, List.getElem_toArray, List.getElem_cons_zero, List.getElem_cons_succ, List.setIfInBounds_toArray, List.set_cons_zero, List.set_cons_succ]
  refine wpL_one (i := 13) (by kernel_rfl) rfl (fun K hK => ?_)
  simp only [List.getElem_toArray, List.getElem_cons_zero, List.getElem_cons_succ]
  go_simp
  refine HFO.out.mono ?_
  rintro _ W4 ⟨rfl, hW4⟩
  refine hK.out _ _ (fun h => absurd rfl h) ?_
  clear hK K
  refine wpL_done (by kernel_rfl) ?_ _
  have hS4 : Sta L st3 W4 := by rw [hW4]; exact HS3.out.drewN 1
  obtain ⟨z1, z2, z3, z4, z5, z6, z7, z8, z9, z10⟩ := HZ3.out
  have k38' := hS4.core.kd 38 _ rfl
  have f38 := hS4.fK G 38
  rw [z10] at k38'
  have HCUT : Hid (Sta L { st3 with ems := st3.ems.take k, ve := .slice (some ⟨ge, 0, none⟩) k ce } (W4.setCell ⟨L.K, 38, none⟩ (.slice (some ⟨ge, 0, none⟩) k ce))) := hS4.cutE G z10 (by rw [z6]; simp; have := HE.out.2.2.2.2.2.2; omega)
  clear cE HFO HS6 hS4 hW4 k38 HS3 z1 z2 z3 z4 z5 z6 z7 z8 z9 z10
  go_wp2
  refine wp_region_L (fun w' => w'.cell? ⟨L.K, 38, none⟩ = some (.slice (some ⟨ge, 0, none⟩) k1 ce) ∧ w'.frozen? ⟨L.K, 38, none⟩ = false) 14 15 (by kernel_rfl) (by kernel_rfl) ?_
  have HS7 : Hid ((fun w' : World => w'.cell? ⟨L.K, 38, none⟩ = some (.slice (some ⟨ge, 0, none⟩) k1 ce) ∧ w'.frozen? ⟨L.K, 38, none⟩ = false) W4.drew) := ⟨k38', f38⟩
  refine wpU_take (i := 0) (v := ?_) rfl (by kernel_rfl) (by kernel_rfl) (by kernel_rfl) (by kernel_rfl) (fun _ _ _ h => h) (by rfl) ?_ HS7.out ?_
  rotate_left
  · (intro wS hwS; (try dsimp only at hwS); go_simp; try with_reducible rfl)
  simp only [Act.put, List.getElem_toArray, List.getElem_cons_zero, List.getElem_cons_succ, List.setIfInBounds_toArray, List.set_cons_zero, List.set_cons_succ]
  refine wpU_take (i := 1) (v := ?_) rfl (by kernel_rfl) (by kernel_rfl) (by kernel_rfl) (by kernel_rfl) (fun _ _ _ h => h) (by rfl) ?_ HS7.out ?_
  rotate_left
  · (intro wS hwS; (try dsimp only at hwS); go_simp; try with_reducible rfl)
  simp only [Act.put, List.getElem_toArray, List.getElem_cons_zero, List.getElem_cons_succ, List.setIfInBounds_toArray, List.set_cons_zero, List.set_cons_succ]
  refine wpU_take (i := 2) (v := ?_) rfl (by kernel_rfl) (by kernel_rfl) (by kernel_rfl) (by kernel_rfl) (fun _ _ _ h => h) (by rfl) ?_ HS7.out ?_
  rotate_left
  · (intro wS hwS; (try dsimp only at hwS); go_simp; try with_reducible rfl)
  simp only [Act.put, List.getElem_toArray, List.getElem_cons_zero, List.getElem_cons_succ, List.setIfInBounds_toArray, List.set_cons_zero, List.set_cons_succ]
  refine wpU_take (i := 3) (v := ?_) rfl (by kernel_rfl) (by kernel_rfl) (by kernel_rfl) (by kernel_rfl) (fun _ _ _ h => h) (by rfl) ?_ HS7.out ?_
  rotate_left
  · (intro wS hwS; (try dsimp only at hwS); go_simp; try with_reducible rfl)
  simp only [Act.put, List.getElem_toArray, List.getElem_cons_zero, List.getElem_cons_succ, List.setIfInBounds_toArray, List.set_cons_zero, List.set_cons_succ]
  refine wpU_take (i := 4) (v := ?_) rfl (by kernel_rfl) (by kernel_rfl) (by kernel_rfl) (by kernel_rfl) (fun _ _ _ h => h) (by rfl) ?_ HS7.out ?_
  rotate_left
  · (intro wS hwS; (try dsimp only at hwS); go_simp; try with_reducible rfl)
  simp only [Act.put, List.getElem_toArray, List.getElem_cons_zero, List.getElem_cons_succ, List.setIfInBounds_toArray, List.set_cons_zero, List.set_cons_succ]
  refine wpU_take (i := 5) (v := ?_) rfl (by kernel_rfl) (by kernel_rfl) (by kernel_rfl) (by kernel_rfl) (fun _ _ _ h => h) (by rfl) ?_ HS7.out ?_
  rotate_left
  · (intro wS hwS; (try dsimp only at hwS); go_simp; try with_reducible rfl)
  simp only [Act.put, List.getElem_toArray, List.getElem_cons_zero, List.getElem_cons_succ, List.setIfInBounds_toArray, List.set_cons_zero, List.set_cons_succ]
  refine wpU_take (i := 6) (v := ?_) rfl (by kernel_rfl) (by kernel_rfl) (by kernel_rfl) (by kernel_rfl) (fun _ _ _ h => h) (by rfl) ?_ HS7.out ?_
  rotate_left
  · (intro wS hwS; (try dsimp only at hwS); go_simp; try with_reducible rfl)
  simp only [Act.put, List.getElem_toArray, List.getElem_cons_zero, List.getElem_cons_succ, List.setIfInBounds_toArray, List.set_cons_zero, List.set_cons_succ]
  refine wpU_take (i := 7) (v := ?_) rfl (by kernel_rfl) (by kernel_rfl) (by kernel_rfl) (by kernel_rfl) (fun _ _ _ h => h) (by rfl) ?_ HS7.out ?_
  rotate_left
  · (intro wS hwS; (try dsimp only at hwS); go_simp; try with_reducible rfl)
  simp only [Act.put, List.getElem_toArray, List.getElem_cons_zero, List.getElem_cons_succ, List.setIfInBounds_toArray, List.set_cons_zero, List.set_cons_succ]
  refine wpU_take (i := 8) (v := ?_) rfl (by kernel_rfl) (by kernel_rfl) (by kernel_rfl) (by kernel_rfl) (fun _ _ _ h => h) (by rfl) ?_ HS7.out ?_
  rotate_left
  · (intro wS hwS; (try dsimp only at hwS); go_simp; try with_reducible rfl)
  simp only [Act.put, List.getElem_toArray, List.getElem_cons_zero, List.getElem_cons_succ, List.setIfInBounds_toArray, List.set_cons_zero, List.set_cons_succ]
  refine wpU_take (i := 9) (v := ?_) rfl (by kernel_rfl) (by kernel_rfl) (by kernel_rfl) (by kernel_rfl) (fun _ _ _ h => h) (by rfl) ?_ HS7.out ?_
  rotate_left
  · (intro wS hwS; (try dsimp only at hwS); go_simp; try with_reducible rfl)
  simp only [Act.put, List.getElem_toArray, List.getElem_cons_zero, List.getElem_cons_succ, List.setIfInBounds_toArray, List.set_cons_zero, List.set_cons_succ]
  refine wpU_take (i := 10) (v := ?_) rfl (by kernel_rfl) (by kernel_rfl) (by kernel_rfl) (by kernel_rfl) (fun _ _ _ h => h) (by rfl) ?_ HS7.out ?_
  rotate_left
  · (intro wS hwS; (try dsimp only at hwS); go_simp; try with_reducible rfl)
  simp only [Act.put, List.getElem_toArray, List.getElem_cons_zero, List.getElem_cons_succ, List.setIfInBounds_toArray, List.set_cons_zero, List.set_cons_succ]
  refine wpU_take (i := 11) (v := ?_) rfl (by kernel_rfl) (by kernel_rfl) (by kernel_rfl) (by kernel_rfl) (fun _ _ _ h => h) (by rfl) ?_ HS7.out ?_
  rotate_left
  · (intro wS hwS; (try dsimp only at hwS); go_simp; try with_reducible rfl)
  simp only [Act.put, List.getElem_toArray, List.getElem_cons_zero, List.getElem_cons_succ, List.setIfInBounds_toArray, List.set_cons_zero, List.set_cons_succ]
  refine wpU_take (i := 12) (v := ?_) rfl (by kernel_rfl) (by kernel_rfl) (by kernel_rfl) (by kernel_rfl) (fun _ _ _ h => h) (by rfl) ?_ HS7.out ?_
  rotate_left
  · (intro wS hwS; (try dsimp only at hwS); go_simp; try with_reducible rfl)
  simp only [Act.put, List.getElem_toArray, List.getElem_cons_zero, List.getElem_cons_succ, List.setIfInBounds_toArray, List.set_cons_zero, List.set_cons_succ]
  refine wpU_take (i := 13) (v := ?_) rfl (by kernel_rfl) (by kernel_rfl) (by kernel_rfl) (by kernel_rfl) (fun _ _ _ h => h) (by rfl) ?_ HS7.out ?_
  rotate_left
  · (intro wS hwS; (try dsimp only at hwS); go_simp; try with_reducible rfl)
  simp only [Act.put, List.getElem_toArray, List.getElem_cons_zero, List.getElem_cons_succ, List.setIfInBounds_toArray, List.set_cons_zero, List.set_cons_succ]
  refine wpL_one (i := 14) (by kernel_rfl) rfl (fun K hK => ?_)
  simp only [List.getElem_toArray, List.getElem_cons_zero, List.getElem_cons_succ]
  go_simp
  refine hK.out _ _ (fun h => absurd rfl h) ?_
  clear hK K
  refine wpL_done (by kernel_rfl) ?_ _
  obtain ⟨W5, hW5⟩ : ∃ W, W = (W4.setCell ⟨L.K, 38, none⟩ (.slice (some ⟨ge, 0, none⟩) k ce)).drew := ⟨_, rfl⟩
  have hS5 : Sta L { st3 with ems := st3.ems.take k, ve := .slice (some ⟨ge, 0, none⟩) k ce } W5 := by rw [hW5]; exact HCUT.out.drewN 1
  rw [← hW5]
  obtain ⟨st5, hS5', hz5⟩ : ∃ st5, Sta L st5 W5 ∧ (st5.live = was ∧ st5.wt = given L.add st.wt (ones 9 (gone was st.live)) ∧ st5.lf = st.lf ∧ st5.pl = p0 ∧ st5.mks = m0 ∧ st5.ems = e0 ∧ st5.tr = t0 ∧ st5.rc = true ∧ st5.fo = st.fo) := by
    obtain ⟨z1, z2, z3, z4, z5, z6, z7, z8, z9, z10⟩ := HZ3.out
    refine ⟨_, hS5, z1, z2, z3, z4, z5, ?_, z7, z8, z9⟩
    show st3.ems.take k = e0
    rw [z6, ← HE.out.2.2.2.2.2.2]
    simp
  have HZ5 : Hid (st5.live = was ∧ st5.wt = given L.add st.wt (ones 9 (gone was st.live)) ∧ st5.lf = st.lf ∧ st5.pl = p0 ∧ st5.mks = m0 ∧ st5.ems = e0 ∧ st5.tr = t0 ∧ st5.rc = true ∧ st5.fo = st.fo) := hz5
  have HS5 : Hid (Sta L st5 W5) := hS5'
  obtain ⟨ra, rcap, hrv, hrc, hrow⟩ := Fix.readRow G hi
  have HROW : Hid (∀ j, j < (L.rd i).length → ∃ b, ra = some ⟨b, 0, none⟩ ∧ ∀ W, Fix L W → W.cell? ⟨b, j, none⟩ = some (.int .i64 ((L.rd i).getD j 0 : Nat))) := hrow
  have HRD : Hid (∀ j, j < (L.rd i).length → (L.rd i).getD j 0 < L.s) := fun j hj => G.rdlt i hi _ (by simp [hj])
  have hlen : (L.rd i).length ≤ 9 := G.rdle i hi
  have hm6 := G.m6
  have hs3 := G.s3
  obtain ⟨len, hle⟩ : ∃ len, (L.rd i).length = len := ⟨_, rfl⟩
  have HLE : Hid ((L.rd i).length = len) := hle
  rw [hle] at hrv hrc hlen
  have k13 := hS5'.core.fix.k G (o := 13) rfl
  have krd := hS5'.core.fix.readsAt G hi
  rw [hrv] at krd
  clear hle hrow hS5 hS5' hz5 hW5 HCUT HZ3 k38' f38 HS7 hp1 hp2 hp3 hm1 hm2 hm3 he1 he2 he3 hkI hwk hk0 hkk1 hkk2 hk HVM HVE HE HRC
  go_wp2
  go_loopw [104] (fun q wr => ∃ (j : Nat) (st' : St), j ≤ len ∧ q = .int .i64 j ∧ Sta L st' wr ∧ st' = { st5 with lf := back ((L.rd i).take j) st.lf }) (fun q _ => len - (intOf q).toNat)
  case atStart => exact ⟨0, st5, Nat.zero_le _, rfl, HS5.out, by obtain ⟨_, _, z3, _⟩ := HZ5.out; rw [List.take_zero]; show st5 = { st5 with lf := st.lf }; rw [← z3]⟩
  case round =>
    obtain ⟨j, st', hj, rfl, hS', hP'⟩ := hrel
    by_cases hlt : j < len
    · obtain ⟨b, hb, hcell⟩ := HROW.out j (by rw [HLE.out]; exact hlt)
      have hg := HRD.out j (by rw [HLE.out]; exact hlt)
      have cb := hcell wr hS'.core.fix
      obtain ⟨g, hgg⟩ : ∃ g, (L.rd i).getD j 0 = g := ⟨_, rfl⟩
      rw [hgg] at cb hg
      have HGG : Hid ((L.rd i).getD j 0 = g) := hgg
      have cl := hS'.core.lf g hg
      have fl := hS'.core.fix.fr G (b := L.bG) (by simp [Lay.Spec]) (4 * g + 2)
      have k10 := hS'.core.fix.k G (o := 10) rfl
      have hlf0 := HLF.out g hg
      have hbk := back_bound ((L.rd i).take j) st.lf g
      have hlt9 : ((L.rd i).take j).length ≤ 9 := by rw [List.length_take]; have := HLE.out; omega
      have hlfe : st'.lf g = back ((L.rd i).take j) st.lf g := by rw [hP']
      have HS' : Hid (Sta L st' wr) := hS'
      have HP' : Hid (st' = { st5 with lf := back ((L.rd i).take j) st.lf }) := hP'
      obtain ⟨y, hy⟩ : ∃ y, st'.lf g = y := ⟨_, rfl⟩
      rw [hy] at cl hlfe
      obtain ⟨x, hx⟩ : ∃ x, y + 1 = x := ⟨_, rfl⟩
      have HX : Hid (st'.lf g + 1 = x) := by rw [hy]; exact hx
      have hyb : -2000 ≤ y ∧ y ≤ 2000 := by omega
      rw [Nat.mul_comm] at cl fl
      subst hb
      clear hgg hcell hS' hP' hy hlf0 k13 krd hbk hlt9 hlfe
      go_wp2
      go_roundw
      case rel =>
        have hS6 := HS'.out.setLeft G g hg x
        rw [Nat.mul_comm] at hS6
        refine ⟨j + 1, _, by omega, by go_num, hS6, ?_⟩
        have hjl : j < (L.rd i).length := by rw [HLE.out]; exact hlt
        have hg' : (L.rd i)[j] = g := by rw [← HGG.out]; simp [hjl]
        rw [List.take_succ_eq_append_getElem hjl, back_snoc, hg', ← HX.out]
        rw [HP'.out]
      case measure => simp [intOf]; omega
    · obtain rfl : j = len := by omega
      have HS' : Hid (Sta L st' wr) := hS'
      have HP' : Hid (st' = { st5 with lf := back ((L.rd i).take j) st.lf }) := hP'
      clear hS' hP' k13 krd
      go_wp2
      go_end0
      obtain ⟨z1, z2, z3, z4, z5, z6, z7, z8, z9⟩ := HZ5.out
      refine ⟨rfl, st', HS'.out, ?_⟩
      rw [HP'.out, ← HLE.out, List.take_length]
      exact ⟨z1, z2, rfl, z7, z4, z5, z6, z8, z9⟩
end Go.Proofs.YbulkcoguDoor
