import Derived.Test.YbulkcolcEnd
import Derived.Deep.Cut
import Derived.Deep.CutRange
import Derived.Deep.DeepCutAuto
namespace Go.Proofs.Ybulkcolc
open Go.RowKit Go.Deep
set_option linter.unusedVariables false
set_option linter.unusedSimpArgs false

/-- The tokens, as they lie. -/
structure Toks (w : World) (n tk o : Nat) (kd : Nat → Int) (ba : Nat → Option Addr) (bl bc : Nat → Nat) (yb : Nat → Nat → Int) : Prop where
  k : ∀ j, j < n → w.cell? ⟨tk, o + j * 2, none⟩ = some (.int .u8 (kd j))
  b : ∀ j, j < n → w.cell? ⟨tk, o + j * 2 + 1, none⟩ = some (.slice (ba j) (bl j) (bc j))
  c : ∀ j i, j < n → i < bl j → ∃ bb bo, ba j = some ⟨bb, bo, none⟩ ∧ w.cell? ⟨bb, bo + i, none⟩ = some (.int .u8 (yb j i))
  kr : ∀ j, j < n → 0 ≤ kd j ∧ kd j ≤ 255
  br : ∀ j i, j < n → i < bl j → 0 ≤ yb j i ∧ yb j i ≤ 255

set_option maxHeartbeats 4000000 in
set_option maxRecDepth 100000 in
theorem law_any (ao : Option Addr) (n tk o cp : Nat) (kd : Nat → Int) (ba : Nat → Option Addr) (bl bc : Nat → Nat) (yb : Nat → Nat → Int) (op pre : Bool) (w : World)
    (hao : 0 < n → ao = some ⟨tk, o, none⟩) (hT : Toks w n tk o kd ba bl bc yb) (hbl : ∀ j, j < n → bl j ≤ 9223372036854775807) (hn : n ≤ 9223372036854775807) :
    Calls Yba.prog 4 #[.slice ao n cp, .bool op, .bool pre] w fun e w' => e = .returned (.bool true) ∧ Below w.heap.size w w' := by
  have HT : Hid (Toks w n tk o kd ba bl bc yb) := hT
  have HA : Hid (0 < n → ao = some ⟨tk, o, none⟩) := hao
  have HBL : Hid (∀ j, j < n → bl j ≤ 9223372036854775807) := hbl
  clear hT hao hbl
  by_cases h300 : 300 < n
  · go_enter Yba.func4, Yba.ntmps4
    go_wp2
    go_ret
    exact ⟨rfl, Below.refl _ _⟩
  go_enter Yba.func4, Yba.ntmps4
  go_wp2
  go_loopw [30] (fun v wr => ∃ k : Nat, k ≤ n ∧ v = .int .i64 k ∧ Below w.heap.size w wr ∧ Hid (∀ j, j < k → bl j ≤ 1024)) (fun v _ => n - (intOf v).toNat)
  case atStart => exact ⟨0, Nat.zero_le _, rfl, Below.refl _ _, fun j hj => by omega⟩
  case round =>
    obtain ⟨k, hk, rfl, hB, HB⟩ := hrel
    have HBe : Hid (Below w.heap.size w wr) := hB
    have hsz := hB.size
    clear hB
    by_cases hlt : k < n
    · as_aux_lemma =>
      obtain rfl := HA.out (by omega)
      have c0 := HT.out.k k hlt
      have c1 := HT.out.b k hlt
      have b0 : tk < w.heap.size := World.block_lt_of_cell? _ _ c0
      have g0 := (HBe.out.cell (p := ⟨tk, o + k * 2, none⟩) b0).trans c0
      have g1 := (HBe.out.cell (p := ⟨tk, o + k * 2 + 1, none⟩) b0).trans c1
      have hbk := HBL.out k hlt
      clear c0 c1
      by_cases h1 : 1024 < bl k
      · go_wp2
        go_ret
        exact ⟨rfl, HBe.out.alloc hsz _⟩
      · go_wp2
        go_roundw
        case rel => exact ⟨k + 1, by omega, by go_num, HBe.out.alloc hsz _, fun j hj => by
          rcases Nat.lt_or_ge j k with h | h
          · exact HB.out j h
          · have : j = k := by omega
            subst this; omega⟩
        case measure => simp [intOf]; omega
    · as_aux_lemma =>
      have hkn : n = k := by omega
      subst hkn
      have HS : Hid (St w.heap.size w wr [] (.slice none 0 0) (.slice none 0 0) (.slice none 0 0) [] [] []) :=
        ⟨HBe.out, hsz, World.ownsRow_nil _ _ _ _, World.ownsRow_nil _ _ _ _, World.ownsRow_nil _ _ _ _, fun x hx => by simp at hx, fun b c hb => by simp at hb⟩
      go_upto_if 39 with fail
      go_cut [9] (fun v wx => ∃ T ta tc, v = .slice ta T.length tc ∧ T.length ≤ 2 ∧ St w.heap.size w wx [] (.slice ta T.length tc) (.slice none 0 0) (.slice none 0 0) T [] [])
      case first => as_aux_lemma =>
        cases pre
        · go_wp2_with fail
          go_meet
          exact ⟨[], none, 0, rfl, by decide, HS.out⟩
        · go_wp2_with (at_builtin; refine wp_str rfl (.tmp 40) (.const (.string ⟨#[122, 10]⟩)) rfl ⟨#[122, 10]⟩ [122, 10] 2 rfl rfl rfl rfl HS.out (by simp) rfl (by omega) (by simp) ?_; intro ta tc w1 HS1)
          go_meet
          exact ⟨[122, 10], ta, tc, rfl, by decide, HS1.out⟩
      case rest => as_aux_lemma =>
        obtain ⟨T0, ta0, tc0, rfl, hT0, hS0⟩ := hcut
        have HS0 : Hid (St w.heap.size w wc [] (.slice ta0 T0.length tc0) (.slice none 0 0) (.slice none 0 0) T0 [] []) := hS0
        have HB1 : Hid (∀ j, j < n → bl j ≤ 1024) := HB
        clear hS0 HS HBe HB
        go_wp2_with fail
        have hn3 : n ≤ 300 := by omega
        go_loopg [9, 11, 12, 46] n (fun g tv wv gv kv wr => ∃ (k : Nat) (T : List Int) (W : List (Nat × Nat)) (gs : List (List Int)) (G : List Int) (ta : Option Addr) (tc : Nat) (wa : Option Addr) (wcp : Nat) (ga : Option Addr) (gcp : Nat), k ≤ n ∧ g = n - k ∧ kv = .int .i64 k ∧ tv = .slice ta T.length tc ∧ wv = .slice wa W.length wcp ∧
          gv = .slice ga G.length gcp ∧ T.length ≤ 2 + k * 1031 ∧ St w.heap.size w wr [] tv wv gv T W G ∧ Plan (k = n) T W gs k ∧ Hid (G = gs.flatten))
        case atStart => exact ⟨0, T0, [], [], [], ta0, tc0, none, 0, none, 0, Nat.zero_le _, rfl, rfl, rfl, rfl, rfl, by omega, HS0.out, Plan.nil _ _, rfl⟩
        case round =>
          obtain ⟨k, T, W, gs, G, ta, tc, wa, wcp, ga, gcp, hk, rfl, rfl, rfl, rfl, rfl, hTl, hSt, hPl, HGs⟩ := hrel
          have HSt : Hid (St w.heap.size w wr [] (.slice ta T.length tc) (.slice wa W.length wcp) (.slice ga G.length gcp) T W G) := hSt
          have HPl : Hid (Plan (k = n) T W gs k) := hPl
          clear hSt hPl HS0
          by_cases hlt : k < n
          · as_aux_lemma =>
            obtain rfl := HA.out (by omega)
            have HB := HSt.out.below
            have c0 := HT.out.k k hlt
            have c1 := HT.out.b k hlt
            have b0 : tk < w.heap.size := World.block_lt_of_cell? _ _ c0
            have g0 := (HB.cell (p := ⟨tk, o + k * 2, none⟩) b0).trans c0
            have g1 := (HB.cell (p := ⟨tk, o + k * 2 + 1, none⟩) b0).trans c1
            have hb1024 : bl k ≤ 1024 := HB1.out k hlt
            have hkd := HT.out.kr k hlt
            obtain ⟨kk, hkk⟩ : ∃ x, x = kd k := ⟨_, rfl⟩
            obtain ⟨bn, hbn⟩ : ∃ x, x = bl k := ⟨_, rfl⟩
            obtain ⟨bcn, hbcn⟩ : ∃ x, x = bc k := ⟨_, rfl⟩
            obtain ⟨bak, hbak⟩ : ∃ x, x = ba k := ⟨_, rfl⟩
            rw [← hkk] at g0 hkd
            rw [← hbn, ← hbcn, ← hbak] at g1
            rw [← hbn] at hb1024
            have HY : Hid (bn = bl k ∧ bak = ba k) := ⟨hbn, hbak⟩
            clear c0 c1 hkk hbn hbcn hbak HB
            have HS1 : Hid (St w.heap.size w (wr.alloc (.cells #[.int .u8 kk, .slice bak bn bcn] 36)) [(wr.heap.size, #[.int .u8 kk, .slice bak bn bcn])] (.slice ta T.length tc) (.slice wa W.length wcp) (.slice ga G.length gcp) T W G) := HSt.out.lay _
            obtain ⟨tb, htb⟩ : ∃ x, x = wr.heap.size := ⟨_, rfl⟩
            have HTB : Hid (tb = wr.heap.size) := htb
            clear htb HSt
            go_upto_if 52 with fail
            go_cut [9] (fun v wx => ∃ T1 ta tc X, v = .slice ta T1.length tc ∧ T1 = T ++ X ∧ X.length ≤ 1 ∧ St w.heap.size w wx [(wr.heap.size, #[.int .u8 kk, .slice bak bn bcn])] (.slice ta T1.length tc) (.slice wa W.length wcp) (.slice ga G.length gcp) T1 W G)
            case first => as_aux_lemma =>
              by_cases hk0 : 0 < k
              · go_wp2_with (at_builtin; refine wp_byte rfl (.tmp 53) (.tmp 54) rfl 32 rfl _ (by simp) rfl HS1.out (by omega) (by decide) ?_; intro ta1 tc1 w1 HS2)
                go_meet
                exact ⟨T ++ [32], ta1, tc1, [32], by simp, rfl, by decide, by simpa using HS2.out⟩
              · go_wp2_with fail
                go_meet
                exact ⟨T, ta, tc, [], rfl, by simp, by decide, HS1.out⟩
            case rest => as_aux_lemma =>
              obtain ⟨T1, ta1, tc1, X1, rfl, hT1, hX1, hS1⟩ := hcut
              have HS2 : Hid (St w.heap.size w wc [(wr.heap.size, #[.int .u8 kk, .slice bak bn bcn])] (.slice ta1 T1.length tc1) (.slice wa W.length wcp) (.slice ga G.length gcp) T1 W G) := hS1
              have HT1 : Hid (T1 = T ++ X1) := hT1
              have hT1l : T1.length ≤ T.length + 1 := by rw [hT1]; simp; omega
              have k0 : wc.cell? ⟨wr.heap.size, 0, none⟩ = some (.int .u8 kk) := cell_in (hS1.sid _ _ (List.mem_singleton.2 rfl)) rfl
              have k1 : wc.cell? ⟨wr.heap.size, 1, none⟩ = some (.slice bak bn bcn) := cell_in (hS1.sid _ _ (List.mem_singleton.2 rfl)) rfl
              clear HS1 hT1 hS1 g0 g1
              go_upto_if 63 with fail
              go_cut [9, 15, 17] (fun v v15 v17 wx => ∃ T2 ta tc q qb, v = .slice ta T2.length tc ∧ v15 = .int .u8 q ∧ v17 = .bool qb ∧ T2 = T1 ++ (if qb = true then [34] else []) ∧ St w.heap.size w wx [(wr.heap.size, #[.int .u8 kk, .slice bak bn bcn])] (.slice ta T2.length tc) (.slice wa W.length wcp) (.slice ga G.length gcp) T2 W G)
              case first => as_aux_lemma =>
                by_cases h2 : 2 ≤ kk % 4
                · go_wp2_with (at_builtin; refine wp_byte rfl (.tmp 64) (.tmp 65) rfl 34 rfl _ (by simp) rfl HS2.out (by omega) (by decide) ?_; intro ta3 tc3 w3 HS3)
                  go_meet
                  exact ⟨T1 ++ [34], ta3, tc3, kk % 4, true, by simp, rfl, rfl, by simp, by simpa using HS3.out⟩
                · go_wp2_with fail
                  go_meet
                  exact ⟨T1, ta1, tc1, kk % 4, false, rfl, rfl, by simp [h2], by simp, HS2.out⟩
              case rest => as_aux_lemma =>
                obtain ⟨T2, ta2, tc2, q, qb, rfl, rfl, rfl, hT2, hS2⟩ := hcut
                have HS3 : Hid (St w.heap.size w wc [(wr.heap.size, #[.int .u8 kk, .slice bak bn bcn])] (.slice ta2 T2.length tc2) (.slice wa W.length wcp) (.slice ga G.length gcp) T2 W G) := hS2
                have HT2 : Hid (T2 = T1 ++ (if qb = true then [34] else [])) := hT2
                have hT2l : T2.length ≤ T.length + 2 := by rw [hT2]; split <;> simp <;> omega
                have k3 : wc.cell? ⟨wr.heap.size, 1, none⟩ = some (.slice bak bn bcn) := cell_in (hS2.sid _ _ (List.mem_singleton.2 rfl)) rfl
                clear HS2 hT2 hS2 k0 k1
                go_upto_region 26 with fail
                go_cut [15, 74] (fun v15 v74 wx => (∃ hb, v74 = .bool hb) ∧ wx = wc)
                case first => as_aux_lemma =>
                  go_wp2_with fail
                  all_goals go_meet
                  all_goals exact ⟨⟨_, rfl⟩, rfl⟩
                case rest => as_aux_lemma =>
                  obtain ⟨⟨hb, rfl⟩, rfl⟩ := hcut
                  go_upto_if 74 with fail
                  go_cut [9] (fun v wx => ∃ T3 C0 ta tc, v = .slice ta T3.length tc ∧ Hid (T3 = T2 ++ C0) ∧ Hid (Alpha C0) ∧ C0.length ≤ 3 ∧ St w.heap.size w wx [(wr.heap.size, #[.int .u8 kk, .slice bak bn bcn])] (.slice ta T3.length tc) (.slice wa W.length wcp) (.slice ga G.length gcp) T3 W G)
                  case first => as_aux_lemma =>
                    cases hb
                    · go_wp2_with fail
                      go_meet
                      exact ⟨T2, [], ta2, tc2, rfl, by simp [Hid], fun x hx => by simp at hx, by simp, HS3.out⟩
                    · go_wp2_with (at_builtin; refine wp_str rfl (.tmp 75) (.const (.string ⟨#[36, 57, 36]⟩)) rfl ⟨#[36, 57, 36]⟩ [36, 57, 36] 3 rfl rfl rfl rfl HS3.out (by omega) rfl (by omega) (by simp) ?_; intro ta4 tc4 w4 HS4)
                      go_meet
                      exact ⟨T2 ++ [36, 57, 36], [36, 57, 36], ta4, tc4, by simp, rfl, fun x hx => by simp at hx; omega, by simp, by simpa using HS4.out⟩
                  case rest => as_aux_lemma =>
                    obtain ⟨T3, C0, ta3, tc3, rfl, HT3, HC0, hC0, hS3⟩ := hcut
                    have HS4 : Hid (St w.heap.size w wc [(wr.heap.size, #[.int .u8 kk, .slice bak bn bcn])] (.slice ta3 T3.length tc3) (.slice wa W.length wcp) (.slice ga G.length gcp) T3 W G) := hS3
                    have k4 : wc.cell? ⟨wr.heap.size, 1, none⟩ = some (.slice bak bn bcn) := cell_in (hS3.sid _ _ (List.mem_singleton.2 rfl)) rfl
                    clear HS3 hS3 k3 HTB
                    generalize wr.heap.size = tkb at HS4 k4 ⊢
                    go_wp2_with fail
                    go_loopg [9, 80] bn (fun g tv iv wr => ∃ (i : Nat) (C T4 : List Int) (ta : Option Addr) (tc : Nat), i ≤ bn ∧ g = bn - i ∧ iv = .int .i64 i ∧ tv = .slice ta T4.length tc ∧ Hid (T4 = T2 ++ C) ∧ Hid (Alpha C) ∧ C.length ≤ 3 + i ∧
                      St w.heap.size w wr [(tkb, #[.int .u8 kk, .slice bak bn bcn])] (.slice ta T4.length tc) (.slice wa W.length wcp) (.slice ga G.length gcp) T4 W G)
                    case atStart => exact ⟨0, C0, T3, ta3, tc3, Nat.zero_le _, rfl, rfl, rfl, HT3, HC0, hC0, HS4.out⟩
                    case round =>
                      obtain ⟨i, C, T4, ta4, tc4, hi, rfl, rfl, rfl, HT4, HC4, hC4, hS4⟩ := hrel
                      have HS5 : Hid (St w.heap.size w wr [(tkb, #[.int .u8 kk, .slice bak bn bcn])] (.slice ta4 T4.length tc4) (.slice wa W.length wcp) (.slice ga G.length gcp) T4 W G) := hS4
                      have hT4l : T4.length ≤ T.length + 2 + 3 + i := by rw [HT4.out]; simp; omega
                      clear hS4 HS4
                      by_cases hil : i < bn
                      · as_aux_lemma =>
                        obtain ⟨bb, bo, hbb, hcl⟩ := HT.out.c k i hlt (by have := HY.out.1; omega)
                        obtain rfl : bak = some ⟨bb, bo, none⟩ := HY.out.2.trans hbb
                        have bbl : bb < w.heap.size := World.block_lt_of_cell? _ _ hcl
                        have gy := (HS5.out.below.cell (p := ⟨bb, bo + i, none⟩) bbl).trans hcl
                        have hyr := HT.out.br k i hlt (by have := HY.out.1; omega)
                        obtain ⟨y, hy⟩ : ∃ y, y = yb k i := ⟨_, rfl⟩
                        rw [← hy] at gy hyr
                        obtain ⟨hy0, hy1⟩ := hyr
                        clear hy hcl hbb
                        have hcase : y % 5 = 0 ∨ y % 5 = 1 ∨ y % 5 = 2 ∨ y % 5 = 3 ∨ y % 5 = 4 := by omega
                        clear hkd
                        rcases hcase with h5 | h5 | h5 | h5 | h5
                        · as_aux_lemma =>
                          go_wp2_with (at_builtin; refine wp_byte rfl (.tmp 84) (.tmp 89) rfl 36 rfl _ (by simp) rfl HS5.out (by omega) (by decide) ?_; intro ta5 tc5 w5 HS6)
                          go_roundg (bn - (i + 1))
                          case measure => omega
                          case rel => exact ⟨i + 1, C ++ [36], T4 ++ [36], ta5, tc5, by omega, rfl, by go_num, by simp, by rw [HT4.out]; simp [Hid], fun x hx => (List.mem_append.1 hx).elim (HC4.out x) (fun h => by simp at h; omega), by simp; omega, by simpa using HS6.out⟩
                        · as_aux_lemma =>
                          go_wp2_with (at_builtin; refine wp_byte rfl (.tmp 84) (.tmp 89) rfl 57 rfl _ (by simp) rfl HS5.out (by omega) (by decide) ?_; intro ta5 tc5 w5 HS6)
                          go_roundg (bn - (i + 1))
                          case measure => omega
                          case rel => exact ⟨i + 1, C ++ [57], T4 ++ [57], ta5, tc5, by omega, rfl, by go_num, by simp, by rw [HT4.out]; simp [Hid], fun x hx => (List.mem_append.1 hx).elim (HC4.out x) (fun h => by simp at h; omega), by simp; omega, by simpa using HS6.out⟩
                        · as_aux_lemma =>
                          go_wp2_with (at_builtin; refine wp_byte rfl (.tmp 84) (.tmp 89) rfl 97 rfl _ (by simp) rfl HS5.out (by omega) (by decide) ?_; intro ta5 tc5 w5 HS6)
                          go_roundg (bn - (i + 1))
                          case measure => omega
                          case rel => exact ⟨i + 1, C ++ [97], T4 ++ [97], ta5, tc5, by omega, rfl, by go_num, by simp, by rw [HT4.out]; simp [Hid], fun x hx => (List.mem_append.1 hx).elim (HC4.out x) (fun h => by simp at h; omega), by simp; omega, by simpa using HS6.out⟩
                        · as_aux_lemma =>
                          go_wp2_with (at_builtin; refine wp_byte rfl (.tmp 84) (.tmp 89) rfl 98 rfl _ (by simp) rfl HS5.out (by omega) (by decide) ?_; intro ta5 tc5 w5 HS6)
                          go_roundg (bn - (i + 1))
                          case measure => omega
                          case rel => exact ⟨i + 1, C ++ [98], T4 ++ [98], ta5, tc5, by omega, rfl, by go_num, by simp, by rw [HT4.out]; simp [Hid], fun x hx => (List.mem_append.1 hx).elim (HC4.out x) (fun h => by simp at h; omega), by simp; omega, by simpa using HS6.out⟩
                        · as_aux_lemma =>
                          go_wp2_with (at_builtin; refine wp_byte rfl (.tmp 84) (.tmp 89) rfl 123 rfl _ (by simp) rfl HS5.out (by omega) (by decide) ?_; intro ta5 tc5 w5 HS6)
                          go_roundg (bn - (i + 1))
                          case measure => omega
                          case rel => exact ⟨i + 1, C ++ [123], T4 ++ [123], ta5, tc5, by omega, rfl, by go_num, by simp, by rw [HT4.out]; simp [Hid], fun x hx => (List.mem_append.1 hx).elim (HC4.out x) (fun h => by simp at h; omega), by simp; omega, by simpa using HS6.out⟩
                      · as_aux_lemma =>
                        have : bn = i := by omega
                        subst this
                        go_upto_region 33 with fail
                        go_cut [99] (fun v wx => (∃ hb, v = .bool hb ∧ Hid (hb = true → qb = false) ∧ Hid (hb = false → qb = true ∨ T4.length ≠ T2.length)) ∧ wx = wr)
                        case first => as_aux_lemma =>
                          cases qb
                          · go_wp2_with fail
                            all_goals go_meet
                            all_goals exact ⟨⟨_, rfl, by intro _; trivial, by intro h; right; simp at h; omega⟩, rfl⟩
                          · go_wp2_with fail
                            all_goals go_meet
                            all_goals exact ⟨⟨_, rfl, by simp [Hid], by simp [Hid]⟩, rfl⟩
                        case rest => as_aux_lemma =>
                          obtain ⟨⟨hb, rfl, Hb1, Hb2⟩, rfl⟩ := hcut
                          go_upto_if 99 with fail
                          go_cut [9] (fun v wx => ∃ T5 C5 ta tc, v = .slice ta T5.length tc ∧ Hid (T5 = T2 ++ C5) ∧ Hid (Alpha C5) ∧ Hid (qb = false → 0 < C5.length) ∧ C5.length ≤ 4 + bn ∧ St w.heap.size w wx [(tkb, #[.int .u8 kk, .slice bak bn bcn])] (.slice ta T5.length tc) (.slice wa W.length wcp) (.slice ga G.length gcp) T5 W G)
                          case first => as_aux_lemma =>
                            cases hb
                            · go_wp2_with fail
                              go_meet
                              exact ⟨T4, C, ta4, tc4, rfl, HT4, HC4, fun h => by
                                rcases Hb2.out (by trivial) with h' | h'
                                · rw [h] at h'; cases h'
                                · rw [HT4.out] at h'; simp only [List.length_append] at h'; omega, by omega, HS5.out⟩
                            · go_wp2_with (at_builtin; refine wp_byte rfl (.tmp 100) (.tmp 101) rfl 97 rfl _ (by simp) rfl HS5.out (by omega) (by decide) ?_; intro ta5 tc5 w5 HS6)
                              go_meet
                              exact ⟨T4 ++ [97], C ++ [97], ta5, tc5, by simp, by rw [HT4.out]; simp [Hid], fun x hx => (List.mem_append.1 hx).elim (HC4.out x) (fun h => by simp at h; omega), fun h => by simp, by simp; omega, by simpa using HS6.out⟩
                          case rest => as_aux_lemma =>
                            obtain ⟨T5, C5, ta5, tc5, rfl, HT5, HC5, HN5, hC5, hS5⟩ := hcut
                            have HS6 : Hid (St w.heap.size w wc [(tkb, #[.int .u8 kk, .slice bak bn bcn])] (.slice ta5 T5.length tc5) (.slice wa W.length wcp) (.slice ga G.length gcp) T5 W G) := hS5
                            have hT5l : T5.length = T2.length + C5.length := by rw [HT5.out]; simp
                            have HL5 : Hid (T5.length = T2.length + C5.length) := hT5l
                            have hT5b : T5.length ≤ T.length + 2 + 4 + bn := by omega
                            clear hS5 HS5 hT5l HT4 HC4 hC4 hT4l HT3 HC0 hC0 hb Hb1 Hb2
                            go_upto_region 36 with fail
                            go_cut [116] (fun v wx => (∃ hc, v = .bool hc ∧ Hid (qb = false → hc = false) ∧ Hid (qb = true → hc = false → k + 1 = n)) ∧ wx = wc)
                            case first => as_aux_lemma =>
                              cases qb <;> cases op
                              all_goals go_wp2_with fail
                              all_goals go_meet
                              all_goals refine ⟨⟨_, rfl, ?_, ?_⟩, rfl⟩
                              all_goals intro h1
                              all_goals first
                                | (cases h1; done)
                                | rfl
                                | (intro h2; cases h2; done)
                                | (intro h2; simp at h2; omega)
                                | trace_state
                            case rest => as_aux_lemma =>
                              obtain ⟨⟨hc, rfl, Hc1, Hc2⟩, rfl⟩ := hcut
                              go_upto_if 116 with fail
                              go_cut [9] (fun v wx => ∃ T6 ta tc, v = .slice ta T6.length tc ∧ Hid (T6 = T5 ++ (if hc = true then [34] else [])) ∧ T6.length ≤ T5.length + 1 ∧ St w.heap.size w wx [(tkb, #[.int .u8 kk, .slice bak bn bcn])] (.slice ta T6.length tc) (.slice wa W.length wcp) (.slice ga G.length gcp) T6 W G)
                              case first => as_aux_lemma =>
                                cases hc
                                · go_wp2_with fail
                                  go_meet
                                  exact ⟨T5, ta5, tc5, rfl, by simp [Hid], by omega, HS6.out⟩
                                · go_wp2_with (at_builtin; refine wp_byte rfl (.tmp 117) (.tmp 118) rfl 34 rfl _ (by simp) rfl HS6.out (by omega) (by decide) ?_; intro ta6 tc6 w6 HS7)
                                  go_meet
                                  exact ⟨T5 ++ [34], ta6, tc6, by simp, by simp [Hid], by simp, by simpa using HS7.out⟩
                              case rest => as_aux_lemma =>
                                obtain ⟨T6, ta6, tc6, rfl, HT6, hT6l, hS6⟩ := hcut
                                have HS7 : Hid (St w.heap.size w wc [(tkb, #[.int .u8 kk, .slice bak bn bcn])] (.slice ta6 T6.length tc6) (.slice wa W.length wcp) (.slice ga G.length gcp) T6 W G) := hS6
                                have hWl : W.length ≤ 1000000 := by have := HPl.out.lenW; omega
                                clear hS6 HS6
                                go_upto_region 39 with (at_builtin; refine wp_word rfl (.tmp 120) (.tmp 125) rfl T1.length T6.length rfl _ (by simp) rfl HS7.out hWl ?_; intro wa7 wc7 w7 HS8)
                                have HST : Hid (St w.heap.size w w7 [(tkb, #[.int .u8 kk, .slice bak bn bcn])] (.slice ta6 T6.length tc6) (.slice wa7 (W.length + 1) wc7) (.slice ga G.length gcp) T6 (W ++ [(T1.length, T6.length)]) G) := HS8
                                have hT6b : T6.length ≤ 2 + (k + 1) * 1031 := by omega
                                have HT6b : Hid (T6.length ≤ 2 + (k + 1) * 1031) := hT6b
                                have hT2b : T2.length ≤ 1000000 := by omega
                                clear hT6b HS8 HS7 hT5b hT6l hT2l hT1l hTl
                                cases qb
                                · as_aux_lemma =>
                                  have hP : Hid (Plan (k + 1 = n) T6 (W ++ [(T1.length, T6.length)]) (gs ++ [[]]) (k + 1)) := by
                                    refine plan_plain HPl.out hlt HT1.out HC5.out (HN5.out rfl) ?_
                                    have e2 := HT2.out
                                    have e6 := HT6.out
                                    rw [Hc1.out rfl] at e6
                                    simp at e2 e6
                                    rw [e6, HT5.out, e2]
                                  go_wp2_with fail
                                  go_roundg (n - (k + 1))
                                  case measure => omega
                                  case rel => exact ⟨k + 1, T6, W ++ [(T1.length, T6.length)], gs ++ [[]], G, ta6, tc6, wa7, wc7, ga, gcp, by omega, rfl, by go_num, rfl, by simp, rfl, HT6b.out, by simpa using HST.out.bare, hP.out, by rw [HGs.out]; simp [Hid]⟩
                                · as_aux_lemma =>
                                  have HZ : Hid (∃ Z : List Int, T6 = T1 ++ ([34] ++ C5 ++ Z) ∧ (Z = [34] ∨ (Z = [] ∧ k + 1 = n))) := by
                                    have e2 := HT2.out
                                    have e6 := HT6.out
                                    simp at e2
                                    refine ⟨if hc = true then [34] else [], ?_, ?_⟩
                                    · rw [e6, HT5.out, e2]; simp
                                    · cases hc
                                      · exact .inr ⟨rfl, Hc2.out rfl rfl⟩
                                      · exact .inl rfl
                                  have h21 : T2.length = T1.length + 1 := by rw [HT2.out]; simp
                                  have h6pos : T2.length + C5.length ≤ T6.length := by
                                    have := HL5.out
                                    have h6 := congrArg List.length HT6.out
                                    simp at h6
                                    omega
                                  have H21 : Hid (T2.length = T1.length + 1) := h21
                                  obtain ⟨tg, htg, _, htc6, hcel⟩ := own_text HST.out.txt (by omega)
                                  subst htg
                                  have HCE : Hid (∀ i, i < T6.length → w7.cell? ⟨tg, i, none⟩ = some (.int .u8 (tf T6 i))) := hcel
                                  obtain ⟨d, hd⟩ : ∃ d, d = C5.length := ⟨_, rfl⟩
                                  have hdI : (T5.length : Int) - (T2.length : Int) = (d : Int) := by have := HL5.out; omega
                                  obtain ⟨b1, hb1⟩ : ∃ b1, b1 = T2.length + 1 := ⟨_, rfl⟩
                                  obtain ⟨b2, hb2⟩ : ∃ b2, b2 = T2.length + 2 := ⟨_, rfl⟩
                                  have hb1I : (T2.length : Int) + 1 = (b1 : Int) := by omega
                                  have hb2I : (T2.length : Int) + 2 = (b2 : Int) := by omega
                                  have HE : Hid (T5.length = T1.length + 1 + C5.length) := by have := HL5.out; show _ = _; omega
                                  have HPQ : Hid (∀ g, g = (if headB (tf T6) T1.length (T1.length + 1 + C5.length) = true then [((T1.length + 1 : Nat) : Int), ((T1.length + 1 + C5.length : Nat) : Int)] else []) → Plan (k + 1 = n) T6 (W ++ [(T1.length, T6.length)]) (gs ++ [g]) (k + 1)) := fun g hg => by
                                    obtain ⟨Z, hZ1, hZ2⟩ := HZ.out
                                    exact plan_quoted HPl.out hlt HT1.out HC5.out hZ1 hZ2 hg
                                  have HHd : Hid (Head (tf T6) T1.length (T1.length + 1 + C5.length) ↔ 3 ≤ d ∧ tf T6 T2.length = 36 ∧ tf T6 b1 = 57 ∧ tf T6 b2 = 36) := by
                                    show _ ↔ _
                                    unfold Head
                                    rw [hb1, hb2, h21, hd]
                                    constructor <;> rintro ⟨a1, a2, a3, a4⟩ <;> exact ⟨by omega, a2, a3, a4⟩
                                  have hGl : G.length ≤ 1000000 := by rw [HGs.out]; have := flat_len gs HPl.out.two; have := HPl.out.lenG; omega
                                  have hdT : d ≤ 2000 := by omega
                                  by_cases hd3 : 3 ≤ d
                                  · as_aux_lemma =>
                                    have c0 := HCE.out T2.length (by omega)
                                    have c1 := HCE.out b1 (by omega)
                                    have c2 := HCE.out b2 (by omega)
                                    have l0 : T2.length < T6.length := by omega
                                    have l1 : b1 < T6.length := by omega
                                    have l2 : b2 < T6.length := by omega
                                    obtain ⟨x0, hx0⟩ : ∃ x, x = tf T6 T2.length := ⟨_, rfl⟩
                                    obtain ⟨x1, hx1⟩ : ∃ x, x = tf T6 b1 := ⟨_, rfl⟩
                                    obtain ⟨x2, hx2⟩ : ∃ x, x = tf T6 b2 := ⟨_, rfl⟩
                                    rw [← hx0] at c0 HHd
                                    rw [← hx1] at c1 HHd
                                    rw [← hx2] at c2 HHd
                                    have c1' := c1
                                    have c2' := c2
                                    rw [hb1] at c1'
                                    rw [hb2] at c2'
                                    have l1' : T2.length + 1 < T6.length := by omega
                                    have l2' : T2.length + 2 < T6.length := by omega
                                    clear hx0 hx1 hx2 hcel hd hb1 hb2 h21 h6pos hb1I hb2I c1 c2 l1 l2
                                    by_cases hall : x0 = 36 ∧ x1 = 57 ∧ x2 = 36
                                    · as_aux_lemma =>
                                      have hP : Hid (Plan (k + 1 = n) T6 (W ++ [(T1.length, T6.length)]) (gs ++ [[((T1.length + 1 : Nat) : Int), ((T1.length + 1 + C5.length : Nat) : Int)]]) (k + 1)) := HPQ.out _ (by rw [if_pos (headB_iff.2 (HHd.out.2 ⟨hd3, hall⟩))])
                                      clear HPQ HHd
                                      obtain ⟨rfl, rfl, rfl⟩ := hall
                                      go_wp2_with (at_builtin; refine wp_want rfl (.tmp 157) (.tmp 160) rfl T2.length T5.length rfl _ (by simp) rfl HST.out hGl ?_; intro ga8 gc8 w8 HS9)
                                      go_roundg (n - (k + 1))
                                      case measure => omega
                                      case rel => exact ⟨k + 1, T6, W ++ [(T1.length, T6.length)], gs ++ [[((T1.length + 1 : Nat) : Int), ((T1.length + 1 + C5.length : Nat) : Int)]], G ++ [(T2.length : Int), (T5.length : Int)], some ⟨tg, 0, none⟩, tc6, wa7, wc7, ga8, gc8, by omega, rfl, by go_num, rfl, by simp, by simp, HT6b.out, by simpa using HS9.out.bare, hP.out, by rw [HGs.out, H21.out, HE.out]; simp [Hid]⟩
                                    · as_aux_lemma =>
                                      have HNH : Hid (¬ Head (tf T6) T1.length (T1.length + 1 + C5.length)) := fun h => hall (HHd.out.1 h).2
                                      have hrel' : Hid (∃ (k' : Nat), k' = k + 1 ∧ Plan (k' = n) T6 (W ++ [(T1.length, T6.length)]) (gs ++ [[]]) k') := ⟨k + 1, rfl, HPQ.out _ (by rw [if_neg (fun h => HNH.out (headB_iff.1 h))])⟩
                                      have hc3 : x0 ≠ 36 ∨ (x0 = 36 ∧ x1 ≠ 57) ∨ (x0 = 36 ∧ x1 = 57 ∧ x2 ≠ 36) := by omega
                                      clear hall HHd HPQ
                                      rcases hc3 with h | ⟨h, h'⟩ | ⟨h, h', h''⟩
                                      · as_aux_lemma =>
                                        have hb : (x0 == 36) = false := by simp [h]
                                        go_wp2_with fail
                                        go_roundg (n - (k + 1))
                                        case measure => omega
                                        case rel => exact ⟨k + 1, T6, W ++ [(T1.length, T6.length)], gs ++ [[]], G, some ⟨tg, 0, none⟩, tc6, wa7, wc7, ga, gcp, by omega, rfl, by go_num, rfl, by simp, rfl, HT6b.out, by simpa using HST.out.bare, by obtain ⟨_, rfl, h⟩ := hrel'.out; exact h, by rw [HGs.out]; simp [Hid]⟩
                                      · as_aux_lemma =>
                                        have hb : (x1 == 57) = false := by simp [h']
                                        subst h
                                        go_wp2_with fail
                                        go_roundg (n - (k + 1))
                                        case measure => omega
                                        case rel => exact ⟨k + 1, T6, W ++ [(T1.length, T6.length)], gs ++ [[]], G, some ⟨tg, 0, none⟩, tc6, wa7, wc7, ga, gcp, by omega, rfl, by go_num, rfl, by simp, rfl, HT6b.out, by simpa using HST.out.bare, by obtain ⟨_, rfl, h⟩ := hrel'.out; exact h, by rw [HGs.out]; simp [Hid]⟩
                                      · as_aux_lemma =>
                                        have hb : (x2 == 36) = false := by simp [h'']
                                        subst h h'
                                        go_wp2_with fail
                                        go_roundg (n - (k + 1))
                                        case measure => omega
                                        case rel => exact ⟨k + 1, T6, W ++ [(T1.length, T6.length)], gs ++ [[]], G, some ⟨tg, 0, none⟩, tc6, wa7, wc7, ga, gcp, by omega, rfl, by go_num, rfl, by simp, rfl, HT6b.out, by simpa using HST.out.bare, by obtain ⟨_, rfl, h⟩ := hrel'.out; exact h, by rw [HGs.out]; simp [Hid]⟩
                                  · as_aux_lemma =>
                                    have HNH : Hid (¬ Head (tf T6) T1.length (T1.length + 1 + C5.length)) := fun h => hd3 (HHd.out.1 h).1
                                    have hP : Hid (Plan (k + 1 = n) T6 (W ++ [(T1.length, T6.length)]) (gs ++ [[]]) (k + 1)) := HPQ.out _ (by rw [if_neg (fun h => HNH.out (headB_iff.1 h))])
                                    clear hcel hd hb1 hb2 h21 h6pos HHd HPQ
                                    go_wp2_with fail
                                    go_roundg (n - (k + 1))
                                    case measure => omega
                                    case rel => exact ⟨k + 1, T6, W ++ [(T1.length, T6.length)], gs ++ [[]], G, some ⟨tg, 0, none⟩, tc6, wa7, wc7, ga, gcp, by omega, rfl, by go_num, rfl, by simp, rfl, HT6b.out, by simpa using HST.out.bare, hP.out, by rw [HGs.out]; simp [Hid]⟩
          · as_aux_lemma =>
            have hkn : n = k := by omega
            subst hkn
            have hGl : G.length ≤ 1000 := by rw [HGs.out]; have := flat_len gs HPl.out.two; have := HPl.out.lenG; omega
            have HGl : Hid (G.length ≤ 1000) := hGl
            clear hGl
            go_wp2_with (first
              | (at_builtin; refine wp_str rfl (.tmp 165) (.const (.string ⟨#[10, 34, 36, 57, 36, 113, 34]⟩)) rfl ⟨#[10, 34, 36, 57, 36, 113, 34]⟩ [10, 34, 36, 57, 36, 113, 34] 7 rfl rfl rfl rfl HSt.out (by omega) rfl (by omega) (by simp) ?_; intro ta1 tc1 w1 HS1)
              | (go_at_call 8; refine (find_call' (T := T) (X := [10, 34, 36, 57, 36, 113, 34]) (s0 := T0.length) (gs := gs) HS1.out (by simp) HPl.out (by omega) (by simp) (by omega) HGs.out).mono ?_; rintro x w2 ⟨rfl, hB2, g2, c2, gc2, ow1, ow2⟩)
              | (go_at_call 10; refine (equal_rows HGl.out ow1.out ow2.out).mono ?_; rintro x w3 ⟨rfl, nn, rfl⟩))
            go_ret
            exact ⟨rfl, below_drewN hB2 _⟩
end Go.Proofs.Ybulkcolc
