import Derived.Test.YbulkcolcLook
namespace Go.Proofs.Ybulkcolc
open Go.RowKit Go.Deep
set_option linter.unusedVariables false
set_option linter.unusedSimpArgs false

theorem equal_nil (a1 a2 : Option Addr) (c1 c2 : Nat) (w : World) : Calls Yba.prog 10 #[.slice a1 0 c1, .slice a2 0 c2] w fun e w' => e = .returned (.bool true) ∧ ∃ n, w' = w.drewN n := by
  go_enter Yba.func10, Yba.ntmps10
  go_wp2
  refine wp_loop_rounds 1 ?_
  rw [rounds_succ]
  go_wp2
  go_ret
  exact ⟨rfl, 0, rfl⟩

theorem equal_some (b1 c1 b2 c2 : Nat) (zs : List Int) (w : World) (hl : zs.length ≤ 100000)
    (h1 : ∀ i, i < zs.length → w.cell? ⟨b1, i, none⟩ = some (.int .i64 (zs.getD i 0))) (h2 : ∀ i, i < zs.length → w.cell? ⟨b2, i, none⟩ = some (.int .i64 (zs.getD i 0))) :
    Calls Yba.prog 10 #[.slice (some ⟨b1, 0, none⟩) zs.length c1, .slice (some ⟨b2, 0, none⟩) zs.length c2] w fun e w' => e = .returned (.bool true) ∧ ∃ n, w' = w.drewN n := by
  go_enter Yba.func10, Yba.ntmps10
  go_wp2
  go_loopw [13] (fun i wr => ∃ k : Nat, k ≤ zs.length ∧ i = .int .i64 k ∧ ∃ n, wr = w.drewN n) (fun i _ => zs.length - (intOf i).toNat)
  case atStart => exact ⟨0, Nat.zero_le _, rfl, 0, rfl⟩
  case round =>
    obtain ⟨k, hk, rfl, n, rfl⟩ := hrel
    by_cases hlt : k < zs.length
    · have g1 := h1 k hlt
      have g2 := h2 k hlt
      clear h1 h2
      go_wp2
      go_quiet (fail)
      go_wp2
      go_roundw
      case rel => exact ⟨k + 1, by omega, by go_num, _, rfl⟩
      case measure => simp [intOf]; omega
    · clear h1 h2
      go_wp2
      go_ret
      exact ⟨rfl, _, rfl⟩

theorem upto_len (gs : Nat → List Int) (k : Nat) (h : ∀ j, (gs j).length ≤ 2) : (upto gs k).length ≤ 2 * k := by
  induction k with
  | zero => simp [upto]
  | succ k ih => have := h k; simp [upto]; omega

theorem find_nil (L : Nat) (f : Value) (c : Nat) (w : World) (h : w.cell? ⟨L, 3, none⟩ = some (.slice none 0 c)) :
    Calls Yba.prog 8 #[.pointer (some ⟨L, 0, none⟩), f] w fun x w' => x = .returned (.tuple #[]) ∧ w' = w := by
  go_enter Yba.func8, Yba.ntmps8
  go_wp2
  refine wp_loop_rounds 1 ?_
  rw [rounds_succ]
  go_wp2
  go_end0
  exact ⟨rfl, rfl⟩

theorem find_any (L tb N tc e wb n wcp B gb : Nat) (t : Nat → Int) (ws we : Nat → Nat) (gs : Nat → List Int) (w : World) (hL : Ln w L tb N tc e wb n wcp t ws we) (hn0 : 0 < n) (hn : n ≤ 400) (hN : N ≤ 1000000) (he : e < N) (htc : N ≤ tc)
    (hr : ∀ i, 0 ≤ t i ∧ t i ≤ 255) (hW : ∀ k, k < n → Word t e (ws k) (we k) (gs k)) (hgs : ∀ j, (gs j).length ≤ 2) (hG : Got B gb w w []) (hLB : L < B ∧ L ≠ gb) (htB : tb < B ∧ tb ≠ gb) (hwB : wb < B ∧ wb ≠ gb) :
    Calls Yba.prog 8 #[.pointer (some ⟨L, 0, none⟩), .func (.func 9) #[] #[.pointer (some ⟨gb, 0, none⟩)]] w fun x w' => x = .returned (.tuple #[]) ∧ Got B gb w w' (upto gs n) := by
  have HL : Hid (∀ wr G, Got B gb w wr G → Ln wr L tb N tc e wb n wcp t ws we) := fun wr G h => hL.of (h.kept.block _ hLB.1 hLB.2) (h.kept.block _ htB.1 htB.2) (h.kept.block _ hwB.1 hwB.2)
  have HW : Hid (∀ k, k < n → Word t e (ws k) (we k) (gs k)) := hW
  have HS : Hid (∀ j, (gs j).length ≤ 2) := hgs
  have HR : Hid (∀ i, 0 ≤ t i ∧ t i ≤ 255) := hr
  have g3 := hL.f3
  have hN0 : 0 < N := by omega
  clear hW hL hgs hr
  go_enter Yba.func8, Yba.ntmps8
  go_wp2
  clear g3
  go_loopw [11] (fun v wr => ∃ k : Nat, k ≤ n ∧ v = .int .i64 k ∧ Got B gb w wr (upto gs k)) (fun v _ => n - (intOf v).toNat)
  case atStart => exact ⟨0, Nat.zero_le _, rfl, hG⟩
  case round =>
    obtain ⟨k, hk, rfl, hg⟩ := hrel
    have HG : Hid (Got B gb w wr (upto gs k)) := hg
    clear hg hG
    by_cases hlt : k < n
    · have hl := HL.out _ _ HG.out
      have HLr : Hid (Ln wr L tb N tc e wb n wcp t ws we) := hl
      obtain ⟨hsf, hfe, hq⟩ := HW.out k hlt
      have u0 := hl.w0 k hlt
      have u1 := hl.w1 k hlt
      have g0 := hl.f0
      have gt := hl.txt (ws k) (by omega)
      have hsN : ws k < N := by omega
      have hlen : (upto gs k).length ≤ 1000 := by have := upto_len gs k HS.out; omega
      have HLn : Hid ((upto gs k).length ≤ 1000) := hlen
      have b0 : L < wr.heap.size := World.block_lt_of_cell? _ _ g0
      have b1 : wb < wr.heap.size := World.block_lt_of_cell? _ _ u0
      have b2 : tb < wr.heap.size := World.block_lt_of_cell? _ _ gt
      clear hl hlen
      rcases hq with ⟨hne, hnil⟩ | ⟨m, hQ, hgk⟩
      · have HGk : Hid (gs k = []) := hnil
        obtain ⟨s, hs⟩ : ∃ s, s = ws k := ⟨_, rfl⟩
        obtain ⟨f, hf⟩ : ∃ f, f = we k := ⟨_, rfl⟩
        rw [← hs] at u0 gt hsN hne
        rw [← hf] at u1
        obtain ⟨x, hx⟩ : ∃ x, x = t s := ⟨_, rfl⟩
        rw [← hx] at gt hne
        have hxb : (x == 34) = false := by simp [hne]
        clear hs hf hx hnil hsf hfe
        go_wp2
        go_quiet (fail)
        go_wp2
        go_roundw
        case rel =>
          refine ⟨k + 1, by omega, by go_num, ?_⟩
          have : upto gs (k + 1) = upto gs k := by simp [upto, show gs k = [] from HGk.out]
          rw [this]
          exact (HG.out.grown _).below (below_drewN (Below.refl _ _) _)
        case measure => simp [intOf]; omega
      · have c13 : Hid (∀ wx, Ln wx L tb N tc e wb n wcp t ws we → Calls Yba.prog 13 #[.pointer (some ⟨L, 0, none⟩), .int .i64 k, .string ⟨#[36, 57, 36]⟩] wx fun x w' => x = .returned (.bool (headB t (ws k) m)) ∧ Below wx.heap.size wx w') :=
          fun wx h => hasPrefix_any L tb N tc e wb n wcp k m t ws we wx h hlt (by omega) hN he htc HR.out hQ
        rw [hQ.q] at gt
        have HL1 : Hid (∀ o, Ln (wr.alloc o).drew L tb N tc e wb n wcp t ws we) := fun o => HLr.out.below (Below.alloc (Below.refl _ _) (Nat.le_refl _) _).drew hN0 hn0
        have HG1 : Hid (∀ o, Got B gb w (wr.alloc o).drew (upto gs k)) := fun o => HG.out.below (Below.alloc (Below.refl _ _) (Nat.le_refl _) _).drew
        by_cases hh : headB t (ws k) m = true
        · have c14 : Hid (∀ wx, Ln wx L tb N tc e wb n wcp t ws we → Got B gb w wx (upto gs k) → Calls Yba.prog 14 #[.pointer (some ⟨L, 0, none⟩), .int .i64 k, .func (.func 9) #[] #[.pointer (some ⟨gb, 0, none⟩)]] wx fun x w' => x = .returned (.tuple #[]) ∧ Got B gb w w' (upto gs k ++ [((ws k + 1 : Nat) : Int), (m : Int)])) :=
            fun wx h1 h2 => value_any L tb N tc e wb n wcp k m B gb t ws we w wx (upto gs k) h1 hlt (by omega) hN he htc hQ (headB_iff.1 hh) hsf hfe h2 HLn.out
          have HU : Hid (upto gs (k + 1) = upto gs k ++ [((ws k + 1 : Nat) : Int), (m : Int)]) := by
            show upto gs k ++ gs k = _
            rw [hgk, if_pos hh]
          rw [hh] at c13
          obtain ⟨s, hs⟩ : ∃ s, s = ws k := ⟨_, rfl⟩
          obtain ⟨f, hf⟩ : ∃ f, f = we k := ⟨_, rfl⟩
          rw [← hs] at u0 gt hsN
          rw [← hf] at u1
          have HK : Hid (∀ w1, Below (wr.alloc (.cells #[.int .i64 s, .int .i64 f] 38)).drew.heap.size (wr.alloc (.cells #[.int .i64 s, .int .i64 f] 38)).drew w1 → w1.cell? ⟨L, 0, none⟩ = some (.slice (some ⟨tb, 0, none⟩) N tc) ∧ w1.cell? ⟨wr.heap.size, 0, none⟩ = some (.int .i64 s) ∧ w1.cell? ⟨tb, s, none⟩ = some (.int .u8 34)) := fun w1 hb =>
            ⟨(hb.cell (p := ⟨L, 0, none⟩) (by simp; omega)).trans ((World.cell?_of_block (Below.heap_alloc wr _ L b0)).trans g0), (hb.cell (p := ⟨wr.heap.size, 0, none⟩) (by simp)).trans (cell_in (heap_alloc_new wr _) rfl), (hb.cell (p := ⟨tb, s, none⟩) (by simp; omega)).trans ((World.cell?_of_block (Below.heap_alloc wr _ tb b2)).trans gt)⟩
          clear hs hf hsf hfe hQ hgk hh
          go_wp2_with fail
          go_region_held3 (fun w' => w'.cell? ⟨L, 0, none⟩ = some (.slice (some ⟨tb, 0, none⟩) N tc) ∧ w'.cell? ⟨wr.heap.size, 0, none⟩ = some (.int .i64 s) ∧ w'.cell? ⟨tb, s, none⟩ = some (.int .u8 34)) (go_keep)
            (first | (go_at_call 13; refine (c13.out _ (HL1.out _)).mono ?_; rintro x w1 ⟨rfl, hb1⟩; obtain ⟨k0, k1, k2⟩ := HK.out w1 hb1; have L2 : Hid (Ln w1 L tb N tc e wb n wcp t ws we) := (HL1.out _).below hb1 hN0 hn0; have G2 : Hid (Got B gb w w1 (upto gs k)) := (HG1.out _).below hb1))
          go_wp2_with (go_at_call 14; refine (c14.out _ L2.out G2.out).mono ?_; rintro x w2 ⟨rfl, G3⟩)
          go_roundw
          case rel =>
            refine ⟨k + 1, by omega, by go_num, ?_⟩
            rw [HU.out]
            exact G3
          case measure => simp [intOf]; omega
        · have HU : Hid (upto gs (k + 1) = upto gs k) := by
            show upto gs k ++ gs k = _
            rw [hgk, if_neg hh, List.append_nil]
          rw [show headB t (ws k) m = false from by simpa using hh] at c13
          obtain ⟨s, hs⟩ : ∃ s, s = ws k := ⟨_, rfl⟩
          obtain ⟨f, hf⟩ : ∃ f, f = we k := ⟨_, rfl⟩
          rw [← hs] at u0 gt hsN
          rw [← hf] at u1
          have HK : Hid (∀ w1, Below (wr.alloc (.cells #[.int .i64 s, .int .i64 f] 38)).drew.heap.size (wr.alloc (.cells #[.int .i64 s, .int .i64 f] 38)).drew w1 → w1.cell? ⟨L, 0, none⟩ = some (.slice (some ⟨tb, 0, none⟩) N tc) ∧ w1.cell? ⟨wr.heap.size, 0, none⟩ = some (.int .i64 s) ∧ w1.cell? ⟨tb, s, none⟩ = some (.int .u8 34)) := fun w1 hb =>
            ⟨(hb.cell (p := ⟨L, 0, none⟩) (by simp; omega)).trans ((World.cell?_of_block (Below.heap_alloc wr _ L b0)).trans g0), (hb.cell (p := ⟨wr.heap.size, 0, none⟩) (by simp)).trans (cell_in (heap_alloc_new wr _) rfl), (hb.cell (p := ⟨tb, s, none⟩) (by simp; omega)).trans ((World.cell?_of_block (Below.heap_alloc wr _ tb b2)).trans gt)⟩
          clear hs hf hsf hfe hQ hgk hh
          go_wp2_with fail
          go_region_held3 (fun w' => w'.cell? ⟨L, 0, none⟩ = some (.slice (some ⟨tb, 0, none⟩) N tc) ∧ w'.cell? ⟨wr.heap.size, 0, none⟩ = some (.int .i64 s) ∧ w'.cell? ⟨tb, s, none⟩ = some (.int .u8 34)) (go_keep)
            (first | (go_at_call 13; refine (c13.out _ (HL1.out _)).mono ?_; rintro x w1 ⟨rfl, hb1⟩; obtain ⟨k0, k1, k2⟩ := HK.out w1 hb1; have L2 : Hid (Ln w1 L tb N tc e wb n wcp t ws we) := (HL1.out _).below hb1 hN0 hn0; have G2 : Hid (Got B gb w w1 (upto gs k)) := (HG1.out _).below hb1))
          go_wp2_with fail
          go_roundw
          case rel =>
            refine ⟨k + 1, by omega, by go_num, ?_⟩
            rw [HU.out]
            exact G2.out
          case measure => simp [intOf]; omega
    · have : k = n := by omega
      subst this
      clear HL
      go_wp2
      go_end0
      exact ⟨rfl, HG.out⟩
end Go.Proofs.Ybulkcolc
