import Derived.Test.YbulkcolcLeaves
import Derived.Laws.AppendOwn
import Derived.OwnWalk
import Derived.Deep.RegionHeld3
namespace Go.Proofs.Ybulkcolc
open Go.RowKit Go.Deep
set_option linter.unusedVariables false
set_option linter.unusedSimpArgs false

/-- The contents begin with the three bytes 36, 57, 36. -/
def Head (t : Nat → Int) (s m : Nat) : Prop := s + 1 + 3 ≤ m ∧ t (s + 1) = 36 ∧ t (s + 1 + 1) = 57 ∧ t (s + 1 + 2) = 36

def headB (t : Nat → Int) (s m : Nat) : Bool := decide (s + 1 + 3 ≤ m ∧ t (s + 1) = 36 ∧ t (s + 1 + 1) = 57 ∧ t (s + 1 + 2) = 36)

theorem headB_iff {t : Nat → Int} {s m : Nat} : headB t s m = true ↔ Head t s m := by
  unfold headB Head
  exact decide_eq_true_iff

theorem headB_not {t : Nat → Int} {s m : Nat} (h : ¬ Head t s m) : headB t s m = false := by
  cases e : headB t s m with
  | false => rfl
  | true => exact absurd (headB_iff.1 e) h

theorem byte_eq {x : Int} (h0 : 0 ≤ x) (h1 : x ≤ 255) (y : Nat) (hy : y ≤ 255) : (UInt8.ofNat y == UInt8.ofNat x.toNat) = decide (x = y) := by
  obtain ⟨n, rfl⟩ := Int.eq_ofNat_of_zero_le h0
  have hn : n ≤ 255 := by omega
  by_cases h : n = y
  · subst h; simp
  · have h2 : ¬ ((n : Int) = (y : Int)) := by omega
    rw [decide_eq_false h2]
    simp only [Int.toNat_natCast, beq_eq_false_iff_ne, ne_eq]
    intro hc
    have := congrArg UInt8.toNat hc
    simp only [UInt8.toNat_ofNat'] at this
    omega

theorem head_prefix (t : Nat → Int) (s m : Nat) (h : s + 1 ≤ m) (hr : ∀ i, 0 ≤ t i ∧ t i ≤ 255) :
    Lib.hasPrefix (Lib.bytesOf ((List.range (m - (s + 1))).map fun i => t (s + 1 + i))) (Lib.bytesOf [36, 57, 36]) = headB t s m := by
  obtain ⟨d, hd⟩ : ∃ d, d = m - (s + 1) := ⟨_, rfl⟩
  rw [← hd]
  have e0 := byte_eq (hr (s + 1)).1 (hr (s + 1)).2 36 (by decide)
  have e1 := byte_eq (hr (s + 1 + 1)).1 (hr (s + 1 + 1)).2 57 (by decide)
  have e2 := byte_eq (hr (s + 1 + 2)).1 (hr (s + 1 + 2)).2 36 (by decide)
  match d, hd with
  | 0, hd => rw [headB_not (fun h => by have := h.1; omega)]; simp [Lib.hasPrefix, Lib.bytesOf]
  | 1, hd => rw [headB_not (fun h => by have := h.1; omega)]; simp [Lib.hasPrefix, Lib.bytesOf, List.range_succ, List.isPrefixOf]
  | 2, hd => rw [headB_not (fun h => by have := h.1; omega)]; simp [Lib.hasPrefix, Lib.bytesOf, List.range_succ, List.isPrefixOf]
  | d + 3, hd =>
    have h3 : s + 1 + 3 ≤ m := by omega
    have hl : (List.range (d + 3)).map (fun i => t (s + 1 + i)) = t (s + 1) :: t (s + 1 + 1) :: t (s + 1 + 2) :: (List.range d).map (fun i => t (s + 1 + (i + 1 + 1 + 1))) := by
      simp [List.range_succ_eq_map, List.map_map, Function.comp_def]
    rw [hl]
    have e0' : (36 == UInt8.ofNat (t (s + 1)).toNat) = decide (t (s + 1) = 36) := e0
    have e1' : (57 == UInt8.ofNat (t (s + 1 + 1)).toNat) = decide (t (s + 1 + 1) = 57) := e1
    have e2' : (36 == UInt8.ofNat (t (s + 1 + 2)).toNat) = decide (t (s + 1 + 2) = 36) := e2
    simp only [Lib.hasPrefix, Lib.bytesOf, List.map_cons, List.map_nil, List.isPrefixOf_cons_cons, List.isPrefixOf_nil_left, Bool.and_true]
    show ((36 == UInt8.ofNat (t (s + 1)).toNat) && ((57 == UInt8.ofNat (t (s + 1 + 1)).toNat) && (36 == UInt8.ofNat (t (s + 1 + 2)).toNat))) = _
    rw [e0', e1', e2']
    simp [headB, h3]

theorem hasPrefix_any (L tb N tc e wb n wcp k m : Nat) (t : Nat → Int) (ws we : Nat → Nat) (w : World) (hL : Ln w L tb N tc e wb n wcp t ws we) (hk : k < n) (hn : n ≤ 1000) (hN : N ≤ 1000000) (he : e < N) (htc : N ≤ tc)
    (hr : ∀ i, 0 ≤ t i ∧ t i ≤ 255) (hq : Quoted t (ws k) m e) :
    Calls Yba.prog 13 #[.pointer (some ⟨L, 0, none⟩), .int .i64 k, .string ⟨#[36, 57, 36]⟩] w fun x w' => x = .returned (.bool (headB t (ws k) m)) ∧ Below w.heap.size w w' := by
  have c := span_any L tb N tc e wb n wcp k m t ws we w hL hk hn hN he hq
  have hlo := hq.lo
  have hhi := hq.hi
  have HL : Hid (Ln w L tb N tc e wb n wcp t ws we) := hL
  have g3 := hL.f3
  have b0 := World.block_lt_of_cell? _ _ hL.f0
  have b1 := World.block_lt_of_cell? _ _ (hL.w0 k hk)
  have b2 := World.block_lt_of_cell? _ _ (hL.txt 0 (by omega))
  have HP := head_prefix t (ws k) m hlo hr
  obtain ⟨s, hs⟩ : ∃ s, s = ws k := ⟨_, rfl⟩
  rw [← hs] at c hlo HP ⊢
  obtain ⟨s1, hs1⟩ : ∃ s1, s1 = s + 1 := ⟨_, rfl⟩
  rw [← hs1] at c hlo HP
  have HP' : Hid (Lib.hasPrefix (Lib.bytesOf ((List.range (m - s1)).map fun i => t (s1 + i))) (Lib.bytesOf [36, 57, 36]) = headB t s m) := HP
  have hs1t : s1 < tc := by omega
  have hne : ¬ s1 = tc := by omega
  have hne' : ¬ tc = s1 := by omega
  have hne'' : ¬ tc - s1 = 0 := by omega
  have hconv := fun w' => run_bytes_of_string (P := Yba.prog) w' 9 22 5 ⟨#[36, 57, 36]⟩ Yba.underlying9 Yba.underlying22 Yba.underlying5
  clear hL hq hs HP hs1
  go_enter Yba.func13, Yba.ntmps13
  go_wp2_with (go_at_call 20; refine c.mono ?_; rintro x w1 ⟨rfl, hb⟩; have g0 := (hb.cell (p := ⟨L, 0, none⟩) b0).trans HL.out.f0)
  have hb2 : tb < w1.heap.size := Nat.lt_of_lt_of_le b2 hb.size
  refine (bytes_HasPrefix tb s1 (m - s1) (tc - s1) w1.heap.size 0 3 _ ((List.range (m - s1)).map fun i => t (s1 + i)) [36, 57, 36] _ (by simp) rfl (by omega) ?qa ?qb).mono ?qn
  case qa =>
    intro i hi
    have := (hb.cell (p := ⟨tb, s1 + i, none⟩) b2).trans (HL.out.txt (s1 + i) (by omega))
    rw [List.getD_eq_getElem?_getD, List.getElem?_map, List.getElem?_range hi]
    refine Eq.trans ?_ this
    exact World.cell?_of_block (Below.heap_alloc w1 _ tb hb2)
  case qb =>
    intro i hi
    refine cell_in (heap_alloc_new w1 _) ?_
    have hi' : i = 0 ∨ i = 1 ∨ i = 2 := by omega
    rcases hi' with rfl | rfl | rfl <;> rw [bytesRow_at _ _ _ (by decide)] <;> rfl
  case qn =>
    rintro x w2 ⟨rfl, rfl⟩
    go_wp2
    go_ret
    exact ⟨by rw [← HP'.out]; rfl, (hb.alloc hb.size _).drew⟩

/-- A quoted word is no lone brace. -/
theorem word_is_not (tb N tc s f b c : Nat) (t : Nat → Int) (w : World) (hT : Txt w tb N t) (hsf : s < f) (hf : f ≤ N) (hN : N ≤ 1000000) (htc : N < tc ∨ f < N) (hq : t s = 34) (htc' : N ≤ tc)
    (hb : w.cell? ⟨b, 0, none⟩ = some (.string ⟨#[123]⟩)) :
    Calls Yba.prog 25 #[.agg #[.int .i64 s, .int .i64 f], .slice (some ⟨tb, 0, none⟩) N tc, .slice (some ⟨b, 0, none⟩) 1 c] w fun x w' => x = .returned (.bool false) ∧ Below w.heap.size w w' := by
  have b0 := World.block_lt_of_cell? _ _ hb
  have b1 := World.block_lt_of_cell? _ _ (hT s (by omega))
  have g : ∀ o : Obj, (convert 22 9 (.slice (some ⟨tb, s, none⟩) (f - s) (tc - s))).run Yba.prog (w.alloc o) = .ok (.string (strOfNums ((List.range (f - s)).map fun i => t (s + i)))) (w.alloc o) := fun o =>
    run_convert_bytes_arg (P := Yba.prog) (w.alloc o) 22 5 Yba.underlying22 Yba.underlying5 tb s (f - s) (tc - s) _ (by simp) (fun i hi => by
      rw [List.getD_eq_getElem?_getD, List.getElem?_map, List.getElem?_range hi]
      exact (World.cell?_of_block (Below.heap_alloc w _ tb b1)).trans (hT (s + i) (by omega))) 9 Yba.underlying9
  have hst : ((strOfNums ((List.range (f - s)).map fun i => t (s + i))).toList == [123]) = false := by
    obtain ⟨d, hd⟩ : ∃ d, f - s = d + 1 := ⟨f - s - 1, by omega⟩
    rw [Lib.strOfNums_toList, hd, List.range_succ_eq_map, List.map_cons]
    simp only [Lib.bytesOf, List.map_cons, Nat.add_zero, hq]
    rw [beq_eq_false_iff_ne]
    intro h
    have := (List.cons.inj h).1
    revert this
    decide
  obtain ⟨S, hS⟩ : ∃ S, S = strOfNums ((List.range (f - s)).map fun i => t (s + i)) := ⟨_, rfl⟩
  rw [← hS] at g hst
  clear hS hT
  have hne : ¬ tc = s := by omega
  have hne' : ¬ s = tc := by omega
  go_enter Yba.func25, Yba.ntmps25
  go_wp2
  refine wp_loop_rounds 2 ?_
  rw [rounds_succ]
  go_wp2
  rw [rounds_succ]
  go_wp2
  go_ret
  exact ⟨rfl, Below.alloc (Below.refl _ _) (Nat.le_refl _) _⟩

theorem line_is_not (L tb N tc e wb n wcp k b c : Nat) (t : Nat → Int) (ws we : Nat → Nat) (w : World) (hL : Ln w L tb N tc e wb n wcp t ws we) (hk : k < n) (hn : n ≤ 1000) (hN : N ≤ 1000000)
    (hsf : ws k < we k) (hf : we k < N) (htc : N ≤ tc) (hq : t (ws k) = 34) (hb : w.cell? ⟨b, 0, none⟩ = some (.string ⟨#[123]⟩)) :
    Calls Yba.prog 22 #[.pointer (some ⟨L, 0, none⟩), .int .i64 k, .slice (some ⟨b, 0, none⟩) 1 c] w fun x w' => x = .returned (.bool false) ∧ Below w.heap.size w w' := by
  have g0 := hL.f0
  have g3 := hL.f3
  have u0 := hL.w0 k hk
  have u1 := hL.w1 k hk
  have HC : Hid (∀ x, Calls Yba.prog 25 #[.agg #[.int .i64 (ws k), .int .i64 (we k)], .slice (some ⟨tb, 0, none⟩) N tc, .slice (some ⟨b, 0, none⟩) 1 c] (w.drewN x) fun y w' => y = .returned (.bool false) ∧ Below w.heap.size w w') := fun x =>
    (word_is_not tb N tc (ws k) (we k) b c t (w.drewN x) hL.txt hsf (by omega) hN (.inr hf) hq htc hb).mono fun y w' h => ⟨h.1, h.2.os, h.2.tape, h.2.output, h.2.size, h.2.block⟩
  obtain ⟨s, hs⟩ : ∃ s, s = ws k := ⟨_, rfl⟩
  obtain ⟨f, hf⟩ : ∃ f, f = we k := ⟨_, rfl⟩
  rw [← hs] at u0 HC
  rw [← hf] at u1 HC
  have hkI : decide ((k : Int) < (n : Int)) = true := by simp; omega
  have b0 := World.block_lt_of_cell? _ _ g0
  have b1 := World.block_lt_of_cell? _ _ u0
  clear hL hq hs hf hsf
  go_enter Yba.func22, Yba.ntmps22
  go_wp2_with fail
  go_region_held3 (fun w' => w'.cell? ⟨L, 0, none⟩ = some (.slice (some ⟨tb, 0, none⟩) N tc) ∧ w'.cell? ⟨L, 3, none⟩ = some (.slice (some ⟨wb, 0, none⟩) n wcp) ∧ w'.cell? ⟨wb, k * 2, none⟩ = some (.int .i64 s) ∧ w'.cell? ⟨wb, k * 2 + 1, none⟩ = some (.int .i64 f)) (go_keep)
    (first | (go_at_call 25; refine (HC.out 1).mono ?_; rintro e w1 ⟨rfl, hb1⟩; have k0 := (hb1.cell (p := ⟨L, 0, none⟩) b0).trans g0; have k1 := (hb1.cell (p := ⟨L, 3, none⟩) b0).trans g3; have k2 := (hb1.cell (p := ⟨wb, k * 2, none⟩) b1).trans u0; have k3 := (hb1.cell (p := ⟨wb, k * 2 + 1, none⟩) b1).trans u1))
  all_goals (go_wp2_with fail)
  all_goals go_ret
  all_goals exact ⟨rfl, by assumption⟩

end Go.Proofs.Ybulkcolc
