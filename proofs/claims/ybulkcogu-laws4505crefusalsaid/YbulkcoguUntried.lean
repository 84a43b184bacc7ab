import Derived.Test.YbulkcoguWaitsFor
namespace Go.Proofs.Ybulkcogu
open Go.RowKit Go.Deep
set_option linter.unusedVariables false
set_option linter.unusedSimpArgs false

theorem zero3 (w : World) : (zeroValue 3).run Yba.prog w = .ok (.int .i64 0) w := by kernel_rfl

theorem look_nil (w : World) (k : Int) : (Instr.lookup 40 (.map none) (.int .i64 k) true).run Yba.prog w = .ok (.tuple #[.int .i64 0, .bool false]) w := by
  have hk : MapKept.IsKey (.int .i64) (.int .i64 k) := by simp [MapKept.IsKey]
  simp [Instr.lookup, run_underlying Yba.underlying40, MapKept.run_checkKey Yba.underlying3 hk _ 9999, zero3,
    MapKept.run_findKey (d := .int .i64) (a := none) Yba.underlying3 (show Instr.findNow (.int .i64) (.int .i64 k) [] 0 = _ by simp [Instr.findNow])]

theorem look_empty (w : World) (r : Nat) (k : Int) (c : Nat) (h : w.heap[r]? = some (.map #[] c)) : (Instr.lookup 40 (.map (some r)) (.int .i64 k) true).run Yba.prog w = .ok (.tuple #[.int .i64 0, .bool false]) w := by
  have hk : MapKept.IsKey (.int .i64) (.int .i64 k) := by simp [MapKept.IsKey]
  simp [Instr.lookup, run_underlying Yba.underlying40, MapKept.run_getObj_map h, MapKept.run_checkKey Yba.underlying3 hk _ 9999, zero3,
    MapKept.run_findKey (d := .int .i64) (a := none) Yba.underlying3 (show Instr.findNow (.int .i64) (.int .i64 k) [] 0 = _ by simp [Instr.findNow])]

theorem ceq_one (b1 c1 b2 c2 : Nat) (y : Int) (w : World) (h1 : w.cell? ⟨b1, 0, none⟩ = some (.int .i64 y)) (h2 : w.cell? ⟨b2, 0, none⟩ = some (.int .i64 y)) :
    Calls Yba.prog 7 #[.slice (some ⟨b1, 0, none⟩) 1 c1, .slice (some ⟨b2, 0, none⟩) 1 c2] w fun e w' => e = .returned (.bool true) ∧ ∃ n, w' = w.drewN n := by
  have hz : ∀ i, i < [y].length → i = 0 := fun i hi => by simp at hi; omega
  exact ceq_some b1 0 c1 b2 0 c2 [y] w (by simp) (fun i hi => by obtain rfl := hz i hi; simpa using h1) (fun i hi => by obtain rfl := hz i hi; simpa using h2)

theorem ceq_at (b1 o1 c1 b2 c2 : Nat) (y : Int) (w : World) (h1 : w.cell? ⟨b1, o1, none⟩ = some (.int .i64 y)) (h2 : w.cell? ⟨b2, 0, none⟩ = some (.int .i64 y)) :
    Calls Yba.prog 7 #[.slice (some ⟨b1, o1, none⟩) 1 c1, .slice (some ⟨b2, 0, none⟩) 1 c2] w fun e w' => e = .returned (.bool true) ∧ ∃ n, w' = w.drewN n := by
  have hz : ∀ i, i < [y].length → i = 0 := fun i hi => by simp at hi; omega
  exact ceq_some b1 o1 c1 b2 0 c2 [y] w (by simp) (fun i hi => by obtain rfl := hz i hi; simpa using h1) (fun i hi => by obtain rfl := hz i hi; simpa using h2)

/-- (*knots).refusal where there are no knots. -/
theorem ref_nil (S : Nat) (i : Int) (w : World) (h : w.cell? ⟨S, 19, none⟩ = some (.slice none 0 0)) :
    Calls Yba.prog 10 #[.pointer (some ⟨S, 18, none⟩), .int .i64 i] w fun e w' => e = .returned (.int .i64 (-1)) ∧ w' = w := by
  have hnil := fun (w : World) (n c : Nat) (a : Option Addr) => Lib.run_eql_slice_nil (P := Yba.prog) w 32 47 a n c 0 0 Yba.underlying32
  go_enter Yba.func10, Yba.ntmps10
  go_wp2
  go_ret
  exact ⟨rfl, rfl⟩

/-- What the search and its rows hold ahead of waitOf. -/
structure Setup (S C R Wb P G L : Nat) (n i : Nat) (t : Int) (fs : List Int) (pl : List Bool) (ra : Option Addr) (rc : Nat) (w : World) : Prop where
  h0 : w.cell? ⟨S, 0, none⟩ = some (.pointer (some ⟨C, 0, none⟩))
  h2 : w.cell? ⟨S, 2, none⟩ = some (.int .i64 t)
  h3 : w.cell? ⟨S, 3, none⟩ = some (.int .i64 4611686018427387904)
  f2 : w.frozen? ⟨S, 2, none⟩ = false
  h4 : w.cell? ⟨S, 4, none⟩ = some (.slice (some ⟨P, 0, none⟩) n n)
  h8 : w.cell? ⟨S, 8, none⟩ = some (.slice (some ⟨G, 0, none⟩) n n)
  h10 : w.cell? ⟨S, 10, none⟩ = some (.slice (some ⟨L, 0, none⟩) n n)
  h12 : w.cell? ⟨S, 12, none⟩ = some (.pointer none)
  k1 : w.cell? ⟨C, 1, none⟩ = some (.slice (some ⟨R, 0, none⟩) n n)
  k2 : w.cell? ⟨C, 2, none⟩ = some (.slice (some ⟨Wb, 0, none⟩) n n)
  hr : w.cell? ⟨R, i, none⟩ = some (.slice ra fs.length rc)
  hw : w.cell? ⟨Wb, i, none⟩ = some (.slice none 0 0)
  hfs : ∀ k, k < fs.length → ∃ b, ra = some ⟨b, 0, none⟩ ∧ b ≠ S ∧ w.cell? ⟨b, k * 2, none⟩ = some (.int .i64 0) ∧ w.cell? ⟨b, k * 2 + 1, none⟩ = some (.int .i64 (fs.getD k 0))
  hpl : ∀ x, x < n → w.cell? ⟨P, x, none⟩ = some (.bool (pl.getD x false))
  hb : ∀ k, k < fs.length → fs.getD k 0 < n
  hvn : i < n
  hn : n ≤ 2000
  hl : fs.length ≤ 2000
  ht0 : 0 ≤ t
  ht : t ≤ 500000
  hg : w.cell? ⟨G, i, none⟩ = some (.int .i64 i)
  hlo : ∀ x, x < n → w.cell? ⟨L, x, none⟩ = some (.int .i64 ((n : Int) - 1 - x))
  hC : C ≠ S
  hR : R ≠ S
  hW : Wb ≠ S
  hP : P ≠ S
  hG : G ≠ S
  hL : L ≠ S

theorem Setup.tick {S C R Wb P G L : Nat} {n i : Nat} {t t' : Int} {fs : List Int} {pl : List Bool} {ra : Option Addr} {rc : Nat} {w w' : World} (h : Setup S C R Wb P G L n i t fs pl ra rc w) (k : Tick S t' w w') (g0 : 0 ≤ t') (g1 : t' ≤ 500000) :
    Setup S C R Wb P G L n i t' fs pl ra rc w' where
  h0 := k.cell h.h0 (by simp)
  h2 := k.step h.h2
  h3 := k.cell h.h3 (by simp)
  f2 := k.free h.h2 h.f2
  h4 := k.cell h.h4 (by simp)
  h8 := k.cell h.h8 (by simp)
  h10 := k.cell h.h10 (by simp)
  h12 := k.cell h.h12 (by simp)
  k1 := k.cell h.k1 (fun e => absurd e h.hC)
  k2 := k.cell h.k2 (fun e => absurd e h.hC)
  hr := k.cell h.hr (fun e => absurd e h.hR)
  hw := k.cell h.hw (fun e => absurd e h.hW)
  hfs := fun j hj => by
    obtain ⟨b, hra, hbS, hc0, hc1⟩ := h.hfs j hj
    exact ⟨b, hra, hbS, k.cell hc0 (fun e => absurd e hbS), k.cell hc1 (fun e => absurd e hbS)⟩
  hpl := fun x hx => k.cell (h.hpl x hx) (fun e => absurd e h.hP)
  hb := h.hb
  hvn := h.hvn
  hn := h.hn
  hl := h.hl
  ht0 := g0
  ht := g1
  hg := k.cell h.hg (fun e => absurd e h.hG)
  hlo := fun x hx => k.cell (h.hlo x hx) (fun e => absurd e h.hL)
  hC := h.hC
  hR := h.hR
  hW := h.hW
  hP := h.hP
  hG := h.hG
  hL := h.hL

theorem Setup.waitsFor {S C R Wb P G L : Nat} {n i : Nat} {t : Int} {fs : List Int} {pl : List Bool} {ra : Option Addr} {rc : Nat} {w : World} (h : Setup S C R Wb P G L n i t fs pl ra rc w)
    (m : Nat) (hm : m ≤ fs.length) (hlow : ∀ j, j < m → good pl (fs.getD j 0) = false) (hhit : m < fs.length → good pl (fs.getD m 0) = true)
    (res : Value) (hres1 : m < fs.length → res = .tuple #[.int .i64 (fs.getD m 0), .int .i64 (-1), .bool true]) (hres2 : ¬ m < fs.length → res = .tuple #[.int .i64 (-1), .int .i64 (-1), .bool false]) :
    Calls Yba.prog 13 #[.pointer (some ⟨S, 0, none⟩), .int .i64 i] w fun e w' => e = .returned res ∧ ∃ t', Tick S t' w w' :=
  wf_any S C R Wb P n i t fs pl ra rc m w h.h0 h.h2 h.h3 h.f2 h.h4 h.k1 h.k2 h.hr h.hw h.hfs h.hpl h.hb h.hvn h.hn h.hl h.ht0 h.ht h.hC h.hR h.hW h.hP hm hlow hhit res hres1 hres2

set_option maxHeartbeats 1000000 in
/-- waitOf where i was not tried, no knot refuses it, and a read waits for a writer that is not placed. -/
theorem wait_hit (S C R Wb P G L : Nat) (n i : Nat) (t : Int) (fs : List Int) (pl : List Bool) (ra : Option Addr) (rc : Nat) (m : Nat) (mv : Value) (x : Nat) (w : World)
    (hlk : ∀ w1, Tick S (t + 1) w w1 → (Instr.lookup 40 mv (.int .i64 i) true).run Yba.prog w1 = .ok (.tuple #[.int .i64 0, .bool false]) w1)
    (href : ∀ w1, Tick S (t + 1) w w1 → Calls Yba.prog 10 #[.pointer (some ⟨S, 18, none⟩), .int .i64 i] w1 fun e w' => e = .returned (.int .i64 (-1)) ∧ ∃ t', 0 ≤ t' ∧ t' ≤ 500000 ∧ Tick S t' w w')
    (U : Setup S C R Wb P G L n i t fs pl ra rc w) (hm : m < fs.length) (hlow : ∀ j, j < m → good pl (fs.getD j 0) = false) (hhit : good pl (fs.getD m 0) = true) (hx : fs.getD m 0 = (x : Int)) :
    Calls Yba.prog 6 #[.pointer (some ⟨S, 0, none⟩), .int .i64 i, mv] w fun e w' =>
      ∃ a, e = .returned (.tuple #[.slice (some ⟨a, 0, none⟩) 1 1, .slice none 0 0, .bool true]) ∧ w'.cell? ⟨a, 0, none⟩ = some (.int .i64 ((n : Int) - 1 - x)) ∧ ∃ t', Tick S t' w w' := by
  have hS := World.block_lt_of_cell? _ _ U.h2
  have hxn : x < n := by have := U.hb m hm; omega
  have hn := U.hn
  have hvn := U.hvn
  have ht0 := U.ht0
  have ht := U.ht
  have HREF : Hid (∀ w1, Tick S (t + 1) w w1 → Calls Yba.prog 10 #[.pointer (some ⟨S, 18, none⟩), .int .i64 i] w1 fun e w' => e = .returned (.int .i64 (-1)) ∧ ∃ t', 0 ≤ t' ∧ t' ≤ 500000 ∧ Tick S t' w w') := href
  have HLK : Hid (∀ w1, Tick S (t + 1) w w1 → (Instr.lookup 40 mv (.int .i64 i) true).run Yba.prog w1 = .ok (.tuple #[.int .i64 0, .bool false]) w1) := hlk
  have HLOW : Hid (∀ j, j < m → good pl (fs.getD j 0) = false) := hlow
  have HHIT : Hid (good pl (fs.getD m 0) = true) := hhit
  have HX : Hid (fs.getD m 0 = (x : Int)) := hx
  clear hlk href hlow hhit hx
  go_enter Yba.func6, Yba.ntmps6
  go_wp2_with fail
  refine (take_any S 2 t w U.h2 U.h3 U.f2 U.ht0 (by omega)).mono ?_
  rintro e w1 ⟨rfl, n1, hw1⟩
  have HT1 : Hid (Tick S (t + 1) w w1) := by rw [hw1]; exact (Tick.refl U.h2).take n1
  clear hw1
  have hlk1 := HLK.out w1 HT1.out
  go_wp2_with fail
  refine (HREF.out w1 HT1.out).mono ?_
  rintro e w2 ⟨rfl, t2, ht2, ht2', hT2⟩
  have U2 := U.tick hT2 ht2 ht2'
  have HT2 : Hid (Tick S t2 w w2) := hT2
  have g8 := U2.h8
  have gg := U2.hg
  clear hlk1 hT2
  go_wp2_with fail
  refine (U2.waitsFor m (by omega) HLOW.out (fun _ => HHIT.out) (.tuple #[.int .i64 x, .int .i64 (-1), .bool true]) (fun _ => by rw [HX.out]) (fun h => absurd hm h)).mono ?_
  rintro e w3 ⟨rfl, t3, hT3⟩
  have hz0 : (0 : Int) ≤ x := by omega
  have g10 := hT3.cell U2.h10 (by simp)
  have gl := hT3.cell (U2.hlo x hxn) (fun e => absurd e U2.hL)
  have HT3 : Hid (Tick S t3 w w3) := HT2.out.trans hT3
  clear hT3 g8 gg
  go_wp2
  go_ret3
  exact ⟨w3.heap.size, rfl, cell_in (heap_alloc_new w3 _) rfl, t3, HT3.out.alloc hS _⟩

set_option maxHeartbeats 1000000 in
/-- waitOf where i was not tried, no knot refuses it, and nothing is waited for. -/
theorem wait_miss (S C R Wb P G L : Nat) (n i : Nat) (t : Int) (fs : List Int) (pl : List Bool) (ra : Option Addr) (rc : Nat) (mv : Value) (w : World)
    (hlk : ∀ w1, Tick S (t + 1) w w1 → (Instr.lookup 40 mv (.int .i64 i) true).run Yba.prog w1 = .ok (.tuple #[.int .i64 0, .bool false]) w1)
    (href : ∀ w1, Tick S (t + 1) w w1 → Calls Yba.prog 10 #[.pointer (some ⟨S, 18, none⟩), .int .i64 i] w1 fun e w' => e = .returned (.int .i64 (-1)) ∧ ∃ t', 0 ≤ t' ∧ t' ≤ 500000 ∧ Tick S t' w w')
    (U : Setup S C R Wb P G L n i t fs pl ra rc w) (hlow : ∀ j, j < fs.length → good pl (fs.getD j 0) = false) :
    Calls Yba.prog 6 #[.pointer (some ⟨S, 0, none⟩), .int .i64 i, mv] w fun e w' =>
      e = .returned (.tuple #[.slice none 0 0, .slice none 0 0, .bool false]) ∧ ∃ t', Tick S t' w w' := by
  have hS := World.block_lt_of_cell? _ _ U.h2
  have hn := U.hn
  have hvn := U.hvn
  have ht0 := U.ht0
  have ht := U.ht
  have HREF : Hid (∀ w1, Tick S (t + 1) w w1 → Calls Yba.prog 10 #[.pointer (some ⟨S, 18, none⟩), .int .i64 i] w1 fun e w' => e = .returned (.int .i64 (-1)) ∧ ∃ t', 0 ≤ t' ∧ t' ≤ 500000 ∧ Tick S t' w w') := href
  have HLK : Hid (∀ w1, Tick S (t + 1) w w1 → (Instr.lookup 40 mv (.int .i64 i) true).run Yba.prog w1 = .ok (.tuple #[.int .i64 0, .bool false]) w1) := hlk
  have HLOW : Hid (∀ j, j < fs.length → good pl (fs.getD j 0) = false) := hlow
  clear hlk href hlow
  go_enter Yba.func6, Yba.ntmps6
  go_wp2_with fail
  refine (take_any S 2 t w U.h2 U.h3 U.f2 U.ht0 (by omega)).mono ?_
  rintro e w1 ⟨rfl, n1, hw1⟩
  have HT1 : Hid (Tick S (t + 1) w w1) := by rw [hw1]; exact (Tick.refl U.h2).take n1
  clear hw1
  have hlk1 := HLK.out w1 HT1.out
  go_wp2_with fail
  refine (HREF.out w1 HT1.out).mono ?_
  rintro e w2 ⟨rfl, t2, ht2, ht2', hT2⟩
  have U2 := U.tick hT2 ht2 ht2'
  have HT2 : Hid (Tick S t2 w w2) := hT2
  have g8 := U2.h8
  have gg := U2.hg
  clear hlk1 hT2
  go_wp2_with fail
  refine (U2.waitsFor fs.length (Nat.le_refl _) HLOW.out (fun h => absurd h (Nat.lt_irrefl _)) (.tuple #[.int .i64 (-1), .int .i64 (-1), .bool false]) (fun h => absurd h (Nat.lt_irrefl _)) (fun h => rfl)).mono ?_
  rintro e w3 ⟨rfl, t3, hT3⟩
  have g12 := hT3.cell U2.h12 (by simp)
  have HT3 : Hid (Tick S t3 w w3) := HT2.out.trans hT3
  clear hT3 g8 gg
  go_wp2
  go_ret3
  exact ⟨rfl, t3, HT3.out⟩

end Go.Proofs.Ybulkcogu
