import Derived.Test.YbulkcoecFmtHFrom
import Derived.Test.YbulkcoecFmtHErr
namespace Go.Proofs.YbulkcoecFmt
open Go.RowKit Go.Deep Go.Extern.Stop Go.Stop Go.MuLone
set_option linter.unusedVariables false
set_option linter.unusedSimpArgs false

/-- What stands behind handOver. -/
def Heldd (X : Pc) (vf vh : Value) (fl hl : List Nat) (h1 b : Nat) (mu : Int) (w w' : World) : Prop :=
  ∃ vf' fl' vh' hl', Hw X mu vf' fl' vh' hl' (h1 + 1 + (fl.filter (goes X (X.idf b))).length) w' ∧ fl'.Perm (fl.filter (fun x => !goes X (X.idf b) x)) ∧ hl'.Perm (fl.filter (goes X (X.idf b)) ++ (b :: hl)) ∧ Rises X.idf hl' ∧ Stay (Tn X vf vh) w w'

set_option maxRecDepth 100000 in
set_option maxHeartbeats 8000000 in
/-- handOver where the receiver has not joined. -/
theorem over_hold (F : Interp) {X : Pc} {vf vh : Value} {fl hl : List Nat} {h1 : Nat} {w : World} (hF : F.answers w.tape) (h : Hw X 1 vf fl vh hl h1 w) (hn : fl.length + hl.length ≤ 800) (hh : h1 + fl.length ≤ 90000) (hr : Rises X.idf hl) (b : Nat) (hb : X.ps b) (hown : X.own b = true)
    (bP : Nat) (hvp : X.vpr = .slice (some ⟨bP, 0, none⟩) 3 3) (hP : w.heap[bP]? = some (.cells #[.nilFunc, .int .i64 0, .bool false, .nilFunc, .int .i64 0, .bool false, .nilFunc, .int .i64 0, .bool false] 92 (0, 0))) :
    Calls Ybaf.prog 17 #[ptr X.bM, ptr b] w fun e w' => (∃ a, e = .returned (.iface 118 (.pointer (some a)))) ∧ Heldd X vf vh fl hl h1 b 0 w w' := by
  have c6 : w.cell? ⟨X.bM, 6, none⟩ = some (.slice (some ⟨bP, 0, none⟩) 3 3) := by rw [← hvp]; exact cell_in h.m (o := 6) rfl
  obtain ⟨tt, sq, du, hpd⟩ := h.pd b hb
  rw [hown] at hpd
  have p5 := cell_in hpd (o := 5) (u := .int .i64 1) rfl
  have cP : w.cell? ⟨bP, 3, none⟩ = some .nilFunc := cell_in hP (o := 3) rfl
  have hne : ∀ W : World, (binOp .eql 90 .nilFunc .nilFunc).run Ybaf.prog W = .ok (.bool true) W := fun W => by kernel_rfl
  have hfr : Hid (∀ q, Calls Ybaf.prog 38 #[ptr X.bM, ptr b] (w.drewN q) fun e w' => e = .returned (.tuple #[]) ∧ Heldd X vf vh fl hl h1 b 1 w w') := fun q => by
    refine (from_any (h.idle ((Stay.refl _ w).drewN q)) hn hh hr b hb hown).mono ?_
    rintro e w2 ⟨rfl, vf', fl', vh', hl', a1, a2, a3, a4, a5⟩
    exact ⟨rfl, vf', fl', vh', hl', a1, a2, a3, a4, ⟨a5.os, a5.tape, a5.output, a5.size, a5.block⟩⟩
  have HF : Hid (F.answers w.tape) := hF
  clear h hpd hvp hP hF
  go_enter Ybaf.func17, Ybaf.ntmps17
  go_upto_region 1 with (fail)
  go_quiet (fail)
  go_upto_region 3 with (fail)
  clear c6 p5 cP hne
  go_upto_region 4 with (go_at_call 38; go_loud ( refine (hfr.out _).mono ?_; rintro _ w2 ⟨rfl, hw2⟩; have HW2 : Hid (Heldd X vf vh fl hl h1 b 1 w w2) := hw2; clear hw2))
  obtain ⟨vf', fl', vh', hl', a1, a2, a3, a4, a5⟩ := HW2.out
  have cM := cell_in a1.m (o := 4) (u := .int .i32 1) rfl
  have zM := free_in a1.m (o := 4)
  obtain ⟨W3, hW3⟩ : ∃ W, W = w2.setCell ⟨X.bM, 4, none⟩ (.int .i32 0) := ⟨_, rfl⟩
  have HUL : Hid (Calls Ybaf.prog 19 #[.pointer (some ⟨X.bM, 4, none⟩)] w2 fun e w' => e = .returned (.tuple #[]) ∧ w' = W3) := by
    have := unlock_held Ybaf.muLib ⟨X.bM, 4, none⟩ w2 cM zM
    rw [← hW3] at this
    exact this
  have h3 := a1.lock 0
  rw [← hW3] at h3
  have hs3 : Stay (Tn X vf vh) w W3 := a5.trans (by rw [hW3]; exact Stay.set _ _ _ _ (.inl rfl))
  obtain ⟨tt, sq, du, hpd⟩ := h3.pd b hb
  have HP3 : Hid (W3.heap[b]? = some (.cells (pendA (X.idf b) tt (lk (X.own b)) sq du) 75 (0, 0))) := hpd
  have HSS : Hid ((fun w' : World => w'.cell? ⟨b, 0, none⟩ = some (.int .u64 (X.idf b)) ∧ w'.cell? ⟨b, 1, none⟩ = some (.string ⟨#[97]⟩) ∧ w'.cell? ⟨b, 2, none⟩ = some (.string tt)) W3.drew) := ⟨cell_in hpd rfl, cell_in hpd rfl, cell_in hpd rfl⟩
  obtain ⟨D, hD⟩ : ∃ D, W3.heap.size = D := ⟨_, rfl⟩
  obtain ⟨W4, hW4⟩ : ∃ W, W = (W3.alloc (.cells #[.iface 26 (.int .u64 (X.idf b)), .iface 9 (.string ⟨#[97]⟩), .iface 9 (.string tt), .iface 9 (.string tt)] 20)).drew := ⟨_, rfl⟩
  have hs4 : Stay (fun _ => False) W3 W4 := by rw [hW4]; exact (Stay.alloc _ _ _).drew
  have hD4 : W4.heap[D]? = some (.cells #[.iface 26 (.int .u64 (X.idf b)), .iface 9 (.string ⟨#[97]⟩), .iface 9 (.string tt), .iface 9 (.string tt)] 20 (0, 0)) := by rw [hW4, ← hD]; exact heap_alloc_new W3 _
  have hpd4 := hs4.at_ hpd (fun e => e)
  have HS4 : Hid ((fun w' : World => w'.cell? ⟨b, 0, none⟩ = some (.int .u64 (X.idf b)) ∧ w'.cell? ⟨b, 1, none⟩ = some (.string ⟨#[97]⟩) ∧ w'.cell? ⟨b, 2, none⟩ = some (.string tt)) W4) := ⟨cell_in hpd4 rfl, cell_in hpd4 rfl, cell_in hpd4 rfl⟩
  have HER : Hid (Calls Ybaf.prog 31 #[.string ⟨#[110, 101, 116, 119, 111, 114, 107, 58, 32, 99, 111, 112, 121, 32, 37, 100, 32, 102, 114, 111, 109, 32, 37, 113, 32, 116, 111, 32, 37, 113, 58, 32, 37, 113, 32, 104, 97, 115, 32, 110, 111, 116, 32, 106, 111, 105, 110, 101, 100, 44, 32, 115, 111, 32, 116, 104, 101, 32, 99, 111, 112, 121, 32, 105, 115, 32, 104, 101, 108, 100]⟩, .slice (some ⟨D, 0, none⟩) 4 4] W4 fun e w' => e = .returned (.iface 118 (.pointer (some ⟨W4.heap.size, 0, none⟩))) ∧ Below W4.heap.size W4 w') :=
    errorf_over F (X.idf b) ⟨#[97]⟩ tt tt D W4 (by rw [hs4.tape, hs3.tape]; exact HF.out) (cell_in hD4 rfl) (cell_in hD4 rfl) (cell_in hD4 rfl) (cell_in hD4 rfl)
  have HW4 : Hid ((W3.alloc (.cells #[.iface 26 (.int .u64 (X.idf b)), .iface 9 (.string ⟨#[97]⟩), .iface 9 (.string tt), .iface 9 (.string tt)] 20)).drew = W4 ∧ W3.heap.size = D) := ⟨hW4.symm, hD⟩
  have HFIN : Hid (∀ w5, Stay (fun _ => False) W3 w5 → Heldd X vf vh fl hl h1 b 0 w w5) := fun w5 hs5 =>
    ⟨vf', fl', vh', hl', h3.idle hs5, a2, a3, a4, hs3.trans' hs5 (fun _ _ e => e.elim)⟩
  have HS34 : Hid (Stay (fun _ => False) W3 W4) := hs4
  clear a1 a2 a3 a4 a5 cM zM hW3 h3 hs3 hpd hD hW4 hs4 hD4 hpd4 HW2 hfr HF
  go_upto_region 5 with (go_at_call 19; refine HUL.out.mono ?_; rintro _ wx ⟨rfl, hwx⟩; rw [hwx]; clear hwx wx)
  refine wp_region_L (fun w' : World => w'.cell? ⟨b, 0, none⟩ = some (.int .u64 (X.idf b)) ∧ w'.cell? ⟨b, 1, none⟩ = some (.string ⟨#[97]⟩) ∧ w'.cell? ⟨b, 2, none⟩ = some (.string tt)) 26 27 (by kernel_rfl) (by kernel_rfl) ?_
  refine wpU_take (i := 0) (v := ?_) rfl (by kernel_rfl) (by kernel_rfl) (by kernel_rfl) (by kernel_rfl) (fun _ _ _ h => h) (by rfl) ?_ HSS.out ?_
  rotate_left
  · (intro wS hwS; (try dsimp only at hwS); go_simp; try with_reducible rfl)
  simp only [Act.put, List.getElem_toArray, List.getElem_cons_zero, List.getElem_cons_succ, List.setIfInBounds_toArray, List.set_cons_zero, List.set_cons_succ]
  refine wpU_take (i := 1) (v := ?_) rfl (by kernel_rfl) (by kernel_rfl) (by kernel_rfl) (by kernel_rfl) (fun _ _ _ h => h) (by rfl) ?_ HSS.out ?_
  rotate_left
  · (intro wS hwS; (try dsimp only at hwS); go_simp; try with_reducible rfl)
  simp only [Act.put, List.getElem_toArray, List.getElem_cons_zero, List.getElem_cons_succ, List.setIfInBounds_toArray, List.set_cons_zero, List.set_cons_succ]
  refine wpU_take (i := 2) (v := ?_) rfl (by kernel_rfl) (by kernel_rfl) (by kernel_rfl) (by kernel_rfl) (fun _ _ _ h => h) (by rfl) ?_ HSS.out ?_
  rotate_left
  · (intro wS hwS; (try dsimp only at hwS); go_simp; try with_reducible rfl)
  simp only [Act.put, List.getElem_toArray, List.getElem_cons_zero, List.getElem_cons_succ, List.setIfInBounds_toArray, List.set_cons_zero, List.set_cons_succ]
  refine wpU_take (i := 3) (v := ?_) rfl (by kernel_rfl) (by kernel_rfl) (by kernel_rfl) (by kernel_rfl) (fun _ _ _ h => h) (by rfl) ?_ HSS.out ?_
  rotate_left
  · (intro wS hwS; (try dsimp only at hwS); go_simp; try with_reducible rfl)
  simp only [Act.put, List.getElem_toArray, List.getElem_cons_zero, List.getElem_cons_succ, List.setIfInBounds_toArray, List.set_cons_zero, List.set_cons_succ]
  refine wpU_take (i := 4) (v := ?_) rfl (by kernel_rfl) (by kernel_rfl) (by kernel_rfl) (by kernel_rfl) (fun _ _ _ h => h) (by rfl) ?_ HSS.out ?_
  rotate_left
  · (intro wS hwS; (try dsimp only at hwS); go_simp; try with_reducible rfl)
  simp only [Act.put, List.getElem_toArray, List.getElem_cons_zero, List.getElem_cons_succ, List.setIfInBounds_toArray, List.set_cons_zero, List.set_cons_succ]
  refine wpU_take (i := 5) (v := ?_) rfl (by kernel_rfl) (by kernel_rfl) (by kernel_rfl) (by kernel_rfl) (fun _ _ _ h => h) (by rfl) ?_ HSS.out ?_
  rotate_left
  · (intro wS hwS; (try dsimp only at hwS); go_simp; try with_reducible rfl)
  simp only [Act.put, List.getElem_toArray, List.getElem_cons_zero, List.getElem_cons_succ, List.setIfInBounds_toArray, List.set_cons_zero, List.set_cons_succ]
  refine wpU_take (i := 6) (v := ?_) rfl (by kernel_rfl) (by kernel_rfl) (by kernel_rfl) (by kernel_rfl) (fun _ _ _ h => h) (by rfl) ?_ HSS.out ?_
  rotate_left
  · (intro wS hwS; (try dsimp only at hwS); go_simp; try with_reducible rfl)
  simp only [Act.put, List.getElem_toArray, List.getElem_cons_zero, List.getElem_cons_succ, List.setIfInBounds_toArray, List.set_cons_zero, List.set_cons_succ]
  refine wpU_take (i := 7) (v := ?_) rfl (by kernel_rfl) (by kernel_rfl) (by kernel_rfl) (by kernel_rfl) (fun _ _ _ h => h) (by rfl) ?_ HSS.out ?_
  rotate_left
  · (intro wS hwS; (try dsimp only at hwS); go_simp; try with_reducible rfl)
  simp only [Act.put, List.getElem_toArray, List.getElem_cons_zero, List.getElem_cons_succ, List.setIfInBounds_toArray, List.set_cons_zero, List.set_cons_succ]
  refine wpU_take (i := 8) (v := ?_) rfl (by kernel_rfl) (by kernel_rfl) (by kernel_rfl) (by kernel_rfl) (fun _ _ _ h => h) (by rfl) ?_ HSS.out ?_
  rotate_left
  · (intro wS hwS; (try dsimp only at hwS); go_simp; try with_reducible rfl)
  simp only [Act.put, List.getElem_toArray, List.getElem_cons_zero, List.getElem_cons_succ, List.setIfInBounds_toArray, List.set_cons_zero, List.set_cons_succ]
  refine wpU_take (i := 9) (v := ?_) rfl (by kernel_rfl) (by kernel_rfl) (by kernel_rfl) (by kernel_rfl) (fun _ _ _ h => h) (by rfl) ?_ HSS.out ?_
  rotate_left
  · (intro wS hwS; (try dsimp only at hwS); go_simp; try with_reducible rfl)
  simp only [Act.put, List.getElem_toArray, List.getElem_cons_zero, List.getElem_cons_succ, List.setIfInBounds_toArray, List.set_cons_zero, List.set_cons_succ]
  refine wpU_take (i := 10) (v := ?_) rfl (by kernel_rfl) (by kernel_rfl) (by kernel_rfl) (by kernel_rfl) (fun _ _ _ h => h) (by rfl) ?_ HSS.out ?_
  rotate_left
  · (intro wS hwS; (try dsimp only at hwS); go_simp; try with_reducible rfl)
  simp only [Act.put, List.getElem_toArray, List.getElem_cons_zero, List.getElem_cons_succ, List.setIfInBounds_toArray, List.set_cons_zero, List.set_cons_succ]
  refine wpU_take (i := 11) (v := ?_) rfl (by kernel_rfl) (by kernel_rfl) (by kernel_rfl) (by kernel_rfl) (fun _ _ _ h => h) (by rfl) ?_ HSS.out ?_
  rotate_left
  · (intro wS hwS; (try dsimp only at hwS); go_simp; try with_reducible rfl)
  simp only [Act.put, List.getElem_toArray, List.getElem_cons_zero, List.getElem_cons_succ, List.setIfInBounds_toArray, List.set_cons_zero, List.set_cons_succ]
  refine wpU_take (i := 12) (v := ?_) rfl (by kernel_rfl) (by kernel_rfl) (by kernel_rfl) (by kernel_rfl) (fun _ _ _ h => h) (by rfl) ?_ HSS.out ?_
  rotate_left
  · (intro wS hwS; (try dsimp only at hwS); go_simp; try with_reducible rfl)
  simp only [Act.put, List.getElem_toArray, List.getElem_cons_zero, List.getElem_cons_succ, List.setIfInBounds_toArray, List.set_cons_zero, List.set_cons_succ]
  refine wpU_take (i := 13) (v := ?_) rfl (by kernel_rfl) (by kernel_rfl) (by kernel_rfl) (by kernel_rfl) (fun _ _ _ h => h) (by rfl) ?_ HSS.out ?_
  rotate_left
  · (intro wS hwS; (try dsimp only at hwS); go_simp; try with_reducible rfl)
  simp only [Act.put, List.getElem_toArray, List.getElem_cons_zero, List.getElem_cons_succ, List.setIfInBounds_toArray, List.set_cons_zero, List.set_cons_succ]
  refine wpU_take (i := 14) (v := ?_) rfl (by kernel_rfl) (by kernel_rfl) (by kernel_rfl) (by kernel_rfl) (fun _ _ _ h => h) (by rfl) ?_ HSS.out ?_
  rotate_left
  · (intro wS hwS; (try dsimp only at hwS); go_simp; try with_reducible rfl)
  simp only [Act.put, List.getElem_toArray, List.getElem_cons_zero, List.getElem_cons_succ, List.setIfInBounds_toArray, List.set_cons_zero, List.set_cons_succ]
  refine wpU_take (i := 15) (v := ?_) rfl (by kernel_rfl) (by kernel_rfl) (by kernel_rfl) (by kernel_rfl) (fun _ _ _ h => h) (by rfl) ?_ HSS.out ?_
  rotate_left
  · (intro wS hwS; (try dsimp only at hwS); go_simp; try with_reducible rfl)
  simp only [Act.put, List.getElem_toArray, List.getElem_cons_zero, List.getElem_cons_succ, List.setIfInBounds_toArray, List.set_cons_zero, List.set_cons_succ]
  refine wpU_take (i := 16) (v := ?_) rfl (by kernel_rfl) (by kernel_rfl) (by kernel_rfl) (by kernel_rfl) (fun _ _ _ h => h) (by rfl) ?_ HSS.out ?_
  rotate_left
  · (intro wS hwS; (try dsimp only at hwS); go_simp; try with_reducible rfl)
  simp only [Act.put, List.getElem_toArray, List.getElem_cons_zero, List.getElem_cons_succ, List.setIfInBounds_toArray, List.set_cons_zero, List.set_cons_succ]
  refine wpU_take (i := 17) (v := ?_) rfl (by kernel_rfl) (by kernel_rfl) (by kernel_rfl) (by kernel_rfl) (fun _ _ _ h => h) (by rfl) ?_ HSS.out ?_
  rotate_left
  · (intro wS hwS; (try dsimp only at hwS); go_simp; try with_reducible rfl)
  simp only [Act.put, List.getElem_toArray, List.getElem_cons_zero, List.getElem_cons_succ, List.setIfInBounds_toArray, List.set_cons_zero, List.set_cons_succ]
  refine wpU_take (i := 18) (v := ?_) rfl (by kernel_rfl) (by kernel_rfl) (by kernel_rfl) (by kernel_rfl) (fun _ _ _ h => h) (by rfl) ?_ HSS.out ?_
  rotate_left
  · (intro wS hwS; (try dsimp only at hwS); go_simp; try with_reducible rfl)
  simp only [Act.put, List.getElem_toArray, List.getElem_cons_zero, List.getElem_cons_succ, List.setIfInBounds_toArray, List.set_cons_zero, List.set_cons_succ]
  refine wpU_take (i := 19) (v := ?_) rfl (by kernel_rfl) (by kernel_rfl) (by kernel_rfl) (by kernel_rfl) (fun _ _ _ h => h) (by rfl) ?_ HSS.out ?_
  rotate_left
  · (intro wS hwS; (try dsimp only at hwS); go_simp; try with_reducible rfl)
  simp only [Act.put, List.getElem_toArray, List.getElem_cons_zero, List.getElem_cons_succ, List.setIfInBounds_toArray, List.set_cons_zero, List.set_cons_succ]
  refine wpU_take (i := 20) (v := ?_) rfl (by kernel_rfl) (by kernel_rfl) (by kernel_rfl) (by kernel_rfl) (fun _ _ _ h => h) (by rfl) ?_ HSS.out ?_
  rotate_left
  · (intro wS hwS; (try dsimp only at hwS); go_simp; try with_reducible rfl)
  simp only [Act.put, List.getElem_toArray, List.getElem_cons_zero, List.getElem_cons_succ, List.setIfInBounds_toArray, List.set_cons_zero, List.set_cons_succ]
  refine wpU_take (i := 21) (v := ?_) rfl (by kernel_rfl) (by kernel_rfl) (by kernel_rfl) (by kernel_rfl) (fun _ _ _ h => h) (by rfl) ?_ HSS.out ?_
  rotate_left
  · (intro wS hwS; (try dsimp only at hwS); go_simp; try with_reducible rfl)
  simp only [Act.put, List.getElem_toArray, List.getElem_cons_zero, List.getElem_cons_succ, List.setIfInBounds_toArray, List.set_cons_zero, List.set_cons_succ]
  refine wpU_take (i := 22) (v := ?_) rfl (by kernel_rfl) (by kernel_rfl) (by kernel_rfl) (by kernel_rfl) (fun _ _ _ h => h) (by rfl) ?_ HSS.out ?_
  rotate_left
  · (intro wS hwS; (try dsimp only at hwS); go_simp; try with_reducible rfl)
  simp only [Act.put, List.getElem_toArray, List.getElem_cons_zero, List.getElem_cons_succ, List.setIfInBounds_toArray, List.set_cons_zero, List.set_cons_succ]
  refine wpU_take (i := 23) (v := ?_) rfl (by kernel_rfl) (by kernel_rfl) (by kernel_rfl) (by kernel_rfl) (fun _ _ _ h => h) (by rfl) ?_ HSS.out ?_
  rotate_left
  · (intro wS hwS; (try dsimp only at hwS); go_simp; try with_reducible rfl)
  simp only [Act.put, List.getElem_toArray, List.getElem_cons_zero, List.getElem_cons_succ, List.setIfInBounds_toArray, List.set_cons_zero, List.set_cons_succ]
  refine wpL_one (i := 24) (by kernel_rfl) rfl (fun K hK => ?_)
  simp only [List.getElem_toArray, List.getElem_cons_zero, List.getElem_cons_succ]
  go_simp
  rw [HW4.out.1, HW4.out.2]
  refine hK.out _ _ (fun _ => HS4.out) ?_
  clear hK K
  try simp only [Act.put, List.getElem_toArray, List.getElem_cons_zero, List.getElem_cons_succ, List.setIfInBounds_toArray, List.set_cons_zero, List.set_cons_succ]
  refine wpL_one (i := 25) (by kernel_rfl) rfl (fun K hK => ?_)
  simp only [List.getElem_toArray, List.getElem_cons_zero, List.getElem_cons_succ]
  go_simp
  refine HER.out.mono ?_
  rintro _ w5 ⟨rfl, hb5⟩
  have HS45 : Hid (Stay (fun _ => False) W3 w5) := HS34.out.trans (Stay.of_below hb5)
  have HS5 : Hid ((fun w' : World => w'.cell? ⟨b, 0, none⟩ = some (.int .u64 (X.idf b)) ∧ w'.cell? ⟨b, 1, none⟩ = some (.string ⟨#[97]⟩) ∧ w'.cell? ⟨b, 2, none⟩ = some (.string tt)) w5) := by
    have y1 := HS45.out.at_ HP3.out (fun e => e)
    exact ⟨cell_in y1 rfl, cell_in y1 rfl, cell_in y1 rfl⟩
  refine hK.out _ _ (fun _ => HS5.out) ?_
  clear hK K hb5
  try simp only [Act.put, List.getElem_toArray, List.getElem_cons_zero, List.getElem_cons_succ, List.setIfInBounds_toArray, List.set_cons_zero, List.set_cons_succ]
  refine wpL_one (i := 26) (by kernel_rfl) rfl (fun K hK => ?_)
  simp only [List.getElem_toArray, List.getElem_cons_zero, List.getElem_cons_succ]
  go_simp
  refine hK.out _ _ (fun h => absurd rfl h) ?_
  clear hK K
  refine wpL_done (by kernel_rfl) ?_ _
  go_wp2
  go_ret
  exact ⟨⟨_, rfl⟩, HFIN.out _ HS45.out⟩
end Go.Proofs.YbulkcoecFmt
