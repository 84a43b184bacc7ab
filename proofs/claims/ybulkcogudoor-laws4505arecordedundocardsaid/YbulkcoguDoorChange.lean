import Derived.Test.YbulkcoguDoorPush
namespace Go.Proofs.YbulkcoguDoor
open Go.RowKit Go.Deep
set_option linter.unusedVariables false
set_option linter.unusedSimpArgs false

/-- (*trail).push. -/
theorem push_any {L : Lay} (G : Good L) {st : St} {w : World} (h : Sta L st w) (hl : st.tr.length ≤ 100) (x : Nat) (hx : x < 512) :
    Calls Ybad.prog 27 #[.pointer (some ⟨L.K, 22, none⟩), .agg #[.int .i64 (2 * L.n : Nat), .int .u64 x]] w fun e w' => e = .returned (.tuple #[]) ∧
      ∃ vc bC kc bT col, Sta L { st with tr := st.tr ++ [x], ch := true, vc := vc, bC := bC, kc := kc, bT := bT, col := col } w' := by
  cases hc : st.ch with
  | false => exact push_first G h hc x hx
  | true =>
    refine (push_next G h hc hl x hx).mono ?_
    rintro e w' ⟨rfl, h'⟩
    exact ⟨rfl, _, _, _, _, _, by rw [← hc]; exact h'⟩

/-- What a change of the live word does. -/
structure Changed (x : Nat) (st st' : St) : Prop where
  live : st'.live = x
  taken : st'.taken = st.taken
  wt : st'.wt = st.wt
  lf : st'.lf = st.lf
  pl : st'.pl = st.pl
  mks : st'.mks = st.mks
  ems : st'.ems = st.ems
  rc : st'.rc = st.rc
  pc : st'.pc = st.pc
  fo : st'.fo = st.fo
  tr : st'.tr = if st.rc = true ∧ st.sv ≠ st.pc then st.tr ++ [st.live] else st.tr
  sv : st'.sv = if st.rc = true then st.pc else st.sv

theorem change_any {L : Lay} (G : Good L) {st : St} {w : World} (h : Sta L st w) (hl : st.tr.length ≤ 100) (hlv : st.live < 512) (hpc : st.pc ≤ 1000) (hsv : st.sv ≤ 1000) (x : Nat) (hx : x < 512) :
    Calls Ybad.prog 21 #[.pointer (some ⟨L.K, 0, none⟩), .int .i64 (2 * L.n : Nat), .int .u64 x] w fun e w' => e = .returned (.tuple #[]) ∧
      ∃ st', Sta L st' w' ∧ Changed x st st' := by
  have k20 : w.cell? ⟨L.K, 20, none⟩ = some (.bool st.rc) := h.core.kd 20 _ rfl
  have k4 := h.core.fix.k G (o := 4) rfl
  have klv := h.core.lv
  have flv : w.frozen? ⟨L.bB, 2 * L.n, none⟩ = false := h.core.fix.fr G (b := L.bB) (by simp [Lay.Spec]) _
  have hn : L.n ≤ 9 := by have := G.m6; have := G.s3; unfold Lay.n; omega
  have HS : Hid (Sta L st w) := h
  cases hrc : st.rc with
  | false =>
    rw [hrc] at k20
    obtain ⟨N, hN⟩ : ∃ N, 2 * L.n = N := ⟨_, rfl⟩
    have HN : Hid (2 * L.n = N) := hN
    rw [hN] at k4 klv flv ⊢
    have hN18 : N ≤ 18 := by omega
    clear h hN
    go_enter Ybad.func21, Ybad.ntmps21
    go_wp2
    go_quiet (fail)
    go_wp2
    go_end0
    refine ⟨rfl, { st with live := x }, ?_, ⟨rfl, rfl, rfl, rfl, rfl, rfl, rfl, rfl, rfl, rfl, by simp [hrc], by simp [hrc]⟩⟩
    have := (HS.out.drewN nq).setLive G x
    rw [HN.out] at this
    exact this
  | true =>
    obtain ⟨a1, a2, cur, a3, a4, a5⟩ := h.rest.sv hrc
    have k24 : w.cell? ⟨L.K, 24, none⟩ = some (.slice (some ⟨st.bV, 0, none⟩) (2 * L.n + 1) (2 * L.n + 1)) := a2 ▸ h.core.kd 24 _ rfl
    have k25 : w.cell? ⟨L.K, 25, none⟩ = some (.int .i64 st.pc) := h.core.kd 25 _ rfl
    have ksv : w.cell? ⟨st.bV, 2 * L.n, none⟩ = some (.int .i64 st.sv) := cell_in a3 a5
    have fsv : w.frozen? ⟨st.bV, 2 * L.n, none⟩ = false := free_in a3
    have hbK : st.bV ≠ L.K := by have := (h.rest.cV hrc).2; have := G.Kl; have := G.KV; omega
    have hbB : st.bV ≠ L.bB := by have := (h.rest.cV hrc).2; have := G.Bl; have := G.BV; omega
    have hKB : L.K ≠ L.bB := by have := G.BK; omega
    rw [hrc] at k20
    have HP : Hid (∀ (w0 : World) (st0 : St), Sta L st0 w0 → st0.tr.length ≤ 100 → Calls Ybad.prog 27 #[.pointer (some ⟨L.K, 22, none⟩), .agg #[.int .i64 (2 * L.n : Nat), .int .u64 (st.live : Nat)]] w0 fun e w' => e = .returned (.tuple #[]) ∧
      ∃ vc bC kc bT col, Sta L { st0 with tr := st0.tr ++ [st.live], ch := true, vc := vc, bC := bC, kc := kc, bT := bT, col := col } w') := fun w0 st0 h0 hl0 => push_any G h0 hl0 st.live hlv
    have HQ : Hid (∀ (w0 : World) (st0 : St), Sta L st0 w0 → w0.cell? ⟨L.K, 4, none⟩ = some (.slice (some ⟨L.bB, 0, none⟩) (2 * L.n + 1) (2 * L.n + 1)) ∧ w0.frozen? ⟨L.bB, 2 * L.n, none⟩ = false ∧ w0.cell? ⟨L.bB, 2 * L.n, none⟩ = some (.int .u64 st0.live)) := fun w0 st0 h0 => ⟨h0.core.fix.k G (o := 4) rfl, h0.core.fix.fr G (b := L.bB) (by simp [Lay.Spec]) _, h0.core.lv⟩
    obtain ⟨N, hN⟩ : ∃ N, 2 * L.n = N := ⟨_, rfl⟩
    have HN : Hid (2 * L.n = N) := hN
    rw [hN] at k4 klv flv k24 ksv fsv HP HQ ⊢
    have hN18 : N ≤ 18 := by omega
    clear h hN a1 a2 a3 a4 a5
    by_cases hsp : st.sv = st.pc
    · have hb : ((st.sv : Int) == (st.pc : Int)) = true := by simp [hsp]
      have HSP : Hid (st.sv = st.pc) := hsp
      clear hsp
      go_enter Ybad.func21, Ybad.ntmps21
      go_wp2
      go_quiet (fail)
      go_wp2
      go_end0
      refine ⟨rfl, { st with live := x }, ?_, ⟨rfl, rfl, rfl, rfl, rfl, rfl, rfl, rfl, rfl, rfl, by simp [HSP.out], by simp [HSP.out]⟩⟩
      have := (HS.out.drewN nq).setLive G x
      rw [HN.out] at this
      exact this
    · have hb : ((st.sv : Int) == (st.pc : Int)) = false := by simp; omega
      have HSP : Hid (st.sv ≠ st.pc) := hsp
      clear hsp
      go_enter Ybad.func21, Ybad.ntmps21
      go_wp2
      go_quiet (fail)
      go_wp2
      go_region
      go_wp2
      have hS1 := (HS.out.drewN (nq + 1)).setSv G hrc st.pc
      rw [HN.out] at hS1
      obtain ⟨W, hW⟩ : ∃ W, W = ((w.drewN (nq + 1)).setCell ⟨st.bV, N, none⟩ (.int .i64 (st.pc : Nat))) := ⟨_, rfl⟩
      rw [← hW] at hS1 ⊢
      obtain ⟨q4, qf, qlv⟩ := HQ.out W _ hS1
      have HS1 : Hid (Sta L { st with sv := st.pc } W) := hS1
      clear hS1 hW k4 flv klv k24 k25 ksv fsv k20
      dsimp only at qlv
      obtain ⟨M, hM⟩ : ∃ M, N + 1 = M := ⟨_, rfl⟩
      rw [hM] at q4 HQ
      have hI0 : (0 : Int) ≤ (N : Int) := by omega
      have hI1 : (N : Int) < (M : Int) := by omega
      have hI2 : decide ((N : Int) < (M : Int)) = true := by simp; omega
      have hIn : N < M := by omega
      have hw : IntKind.i64.wrap (N : Int) = N := by rw [IntKind.wrap_i64]; omega
      go_region_held3 (fun w' => w'.cell? ⟨L.K, 4, none⟩ = some (.slice (some ⟨L.bB, 0, none⟩) M M) ∧ w'.cell? ⟨L.bB, N, none⟩ = some (.int .u64 st.live)) (go_keep)
        (first | (go_at_call 27; refine (HP.out _ _ (HS1.out.drewN 1) hl).mono ?_; rintro _ w2 ⟨rfl, vc, bC, kc, bT, col, h2⟩; obtain ⟨r4, rf, rlv⟩ := HQ.out _ _ h2; have HS2 : Hid _ := h2; clear h2; dsimp only at rlv))
      go_wp2
      go_end0
      have hf := HS2.out.setLive G x
      rw [HN.out] at hf
      exact ⟨rfl, _, hf, ⟨rfl, rfl, rfl, rfl, rfl, rfl, rfl, rfl, rfl, rfl, by simp [hrc, HSP.out], by simp [hrc]⟩⟩
end Go.Proofs.YbulkcoguDoor
