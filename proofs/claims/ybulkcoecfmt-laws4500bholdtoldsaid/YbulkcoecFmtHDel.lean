import Derived.Test.YbulkcoecFmtHPick
import Derived.Laws.EntriesVeiled
namespace Go.Proofs.YbulkcoecFmt
open Go.RowKit Go.Deep
set_option linter.unusedVariables false
set_option linter.unusedSimpArgs false

theorem clear_many (ty : TypeId) (g o k c : Nat) (W : World) (h : ∀ j, j < k + 1 → (W.cell? ⟨g, o + j, none⟩).isSome = true) (z : ∀ j, W.frozen? ⟨g, j, none⟩ = false) :
    (Builtin.clear_ #[64] ty #[.slice (some ⟨g, o, none⟩) (k + 1) c]).run Ybaf.prog W = .ok (.tuple #[]) (W.setCells g o (List.replicate (k + 1) (.pointer none))) := by
  have hz : (Builtin.zeroCells #[Value.pointer none] (k + 1)).toList = List.replicate (k + 1) (.pointer none) := by
    simp [Builtin.zeroCells]
    rw [List.eq_replicate_iff]
    refine ⟨by simp, fun b hb => ?_⟩
    obtain ⟨i, _, rfl⟩ := List.mem_map.1 hb
    simp [Nat.mod_one]
  have hst := run_storeCells_cells (P := Ybaf.prog) g o (List.replicate (k + 1) (Value.pointer none)) 0 W (by simpa using h) (by intro j hj; exact z _) (by intro v hv; rw [List.eq_of_mem_replicate hv]; rfl)
  simp [Builtin.clear_, go_sem, Ybaf.runUnderlying64, Ybaf.zeroValue71, hz, hst]

/-- What the picking works on. -/
structure De (X : Pc) (bl ba bw bt : Nat) (y : Int) (vt : Value) (tl : List Nat) (W : World) : Prop where
  bl_ : W.heap[bl]? = some (.cells #[.int .i64 0, .int .i64 1] 68 (0, 0))
  ba_ : W.heap[ba]? = some (.cells #[.int .u64 y] 26 (0, 0))
  bw_ : W.heap[bw]? = some (.cells #[.func (.func 99) #[] #[ptr bl, ptr ba]] 180 (0, 0))
  bt_ : W.heap[bt]? = some (.cells #[vt] 63 (0, 0))
  tr : Row X.B vt tl W
  pd : ∀ b, X.ps b → ∃ tt sq du, W.heap[b]? = some (.cells (pendA (X.idf b) tt (lk (X.own b)) sq du) 75 (0, 0))
  hB : X.B ≤ W.heap.size

theorem De.stay {S : Nat → Prop} {X : Pc} {bl ba bw bt : Nat} {y : Int} {vt : Value} {tl : List Nat} {W W' : World} (h : De X bl ba bw bt y vt tl W) (hs : Stay S W W') (h1 : ¬ S bl) (h2 : ¬ S ba) (h3 : ¬ S bw) (h4 : ¬ S bt) (h5 : ∀ g, vt.ownBlock = some g → ¬ S g) (h6 : ∀ b, X.ps b → ¬ S b) : De X bl ba bw bt y vt tl W' :=
  ⟨hs.at_ h.bl_ h1, hs.at_ h.ba_ h2, hs.at_ h.bw_ h3, hs.at_ h.bt_ h4, h.tr.stay hs h5, fun b hb => by
    obtain ⟨tt, sq, du, e⟩ := h.pd b hb
    exact ⟨tt, sq, du, hs.at_ e (h6 b hb)⟩, Nat.le_trans h.hB hs.size⟩

/-- Which are picked. -/
def pk (X : Pc) (y : Int) (b : Nat) : Bool := X.own b && decide (y < X.idf b)

set_option maxRecDepth 100000 in
set_option maxHeartbeats 8000000 in
/-- takeFlying's closure. -/
theorem del_any {X : Pc} {bl ba bw bt : Nat} {y : Int} {vt : Value} {tl : List Nat} {W : World} (h : De X bl ba bw bt y vt tl W) (hn : tl.length ≤ 900) (b : Nat) (hb : X.ps b) :
    Calls Ybaf.prog 120 #[ptr b, ptr bw, ptr bt] W fun e w' => e = .returned (.bool (pk X y b)) ∧ ∃ vt', De X bl ba bw bt y vt' (if pk X y b then tl ++ [b] else tl) w' ∧ Stay (fun x => x = bt ∨ vt.ownBlock = some x) W w' ∧ Moved W vt vt' := by
  obtain ⟨tt, sq, du, hpd⟩ := h.pd b hb
  have hpick : Hid (Calls Ybaf.prog 99 #[ptr b, ptr bl, ptr ba] W fun e w' => e = .returned (.bool (pk X y b)) ∧ w' = W.drew) :=
    pick_any b bl ba (X.idf b) y (X.own b) W (cell_in hpd rfl) (cell_in hpd rfl) (cell_in hpd rfl) (cell_in h.bl_ rfl) (cell_in h.bl_ rfl) (cell_in h.ba_ rfl)
  have cw := cell_in h.bw_ (o := 0) (u := .func (.func 99) #[] #[ptr bl, ptr ba]) rfl
  have ct : W.drew.cell? ⟨bt, 0, none⟩ = some vt := cell_in h.bt_ (o := 0) (u := vt) rfl
  have hdr : De X bl ba bw bt y vt tl W.drew := h.stay ((Stay.refl (fun _ => False) W).drew) (fun e => e) (fun e => e) (fun e => e) (fun e => e) (fun _ _ e => e) (fun _ _ e => e)
  cases hpk : pk X y b with
  | false =>
    rw [hpk] at hpick
    replace hdr : Hid (De X bl ba bw bt y vt tl W.drew) := hdr
    clear h hpd hpk ct
    go_enter Ybaf.func120, Ybaf.ntmps120
    go_wp2_with fail
    refine Calls.mono hpick.out ?_
    rintro e wz ⟨rfl, hwz⟩
    rw [hwz]
    clear hwz
    go_wp2_with fail
    go_ret
    exact ⟨rfl, vt, by simpa using hdr.out, (Stay.refl _ W).drew, .inl rfl⟩
  | true =>
    rw [hpk] at hpick
    obtain ⟨i0, hi0, hz0, hz1, hz2⟩ := info_parts Ybaf.info71
    have hI : Hid (Ybaf.prog.info? 71 = some i0 ∧ i0.zero = some (.pointer none) ∧ i0.size = 1 ∧ i0.bytes = 8) := ⟨hi0, hz0, hz1, hz2⟩
    obtain ⟨D, hD⟩ : ∃ D, W.heap.size = D := ⟨_, rfl⟩
    obtain ⟨W1, hW1⟩ : ∃ W', W' = (W.alloc (.cells #[ptr b] 71)).drew := ⟨_, rfl⟩
    have hs1 : Stay (fun _ => False) W W1 := by rw [hW1]; exact (Stay.alloc _ _ _).drew
    have hD1 : W1.heap[D]? = some (.cells #[ptr b] 71 (0, 0)) := by rw [hW1, ← hD]; exact heap_alloc_new W _
    have h1 := h.stay hs1 (fun e => e) (fun e => e) (fun e => e) (fun e => e) (fun _ _ e => e) (fun _ _ e => e)
    obtain ⟨n, hnn⟩ : ∃ n, tl.length = n := ⟨_, rfl⟩
    have hr : Hid (W1.ownsRow X.B 71 1 vt n (tl.map ptr)) := by rw [← hnn]; exact h1.tr
    have hnews : Hid (∀ (j : Nat) (u : Value), [ptr b][j]? = some u → W1.cell? ((⟨D, 0, none⟩ : Addr).add j) = some u) := fun j u hj => by
      cases j with
      | zero => simp at hj; subst hj; exact cell_in hD1 (o := 0) rfl
      | succ j => simp at hj
    have hsz : Hid (W1.heap.size = D + 1 ∧ X.B ≤ W1.heap.size) := ⟨by rw [hW1]; show (W.alloc _).heap.size = _; rw [World.size_alloc, hD], h1.hB⟩
    have hfin : Hid (∀ g cap w2, w2.ownsRow X.B 71 1 (.slice (some ⟨g, 0, none⟩) (n + 1) cap) (n + 1) (tl.map ptr ++ [ptr b]) → W1.grownBy w2 vt.ownBlock → (vt.ownBlock = some g ∨ g = D + 1) →
        ∃ vt', De X bl ba bw bt y vt' (if true = true then tl ++ [b] else tl) (w2.setCell ⟨bt, 0, none⟩ (.slice (some ⟨g, 0, none⟩) (n + 1) cap)) ∧ Stay (fun x => x = bt ∨ vt.ownBlock = some x) W (w2.setCell ⟨bt, 0, none⟩ (.slice (some ⟨g, 0, none⟩) (n + 1) cap)) ∧ Moved W vt vt') := by
      intro g cap w2 q1 q2 q3
      have hs2 : Stay (fun x => vt.ownBlock = some x) W1 w2 := Stay.grown q2 (fun g hg => hg)
      have hap : ∀ x c t z, W1.heap[x]? = some (.cells c t z) → t ≠ 71 → ¬ (vt.ownBlock = some x) := fun x c t z e ht e2 => by
        obtain ⟨cur, e3⟩ := h1.tr.block e2
        exact other_of e e3 ht rfl
      have hs3 : Stay (fun x => x = bt) w2 (w2.setCell ⟨bt, 0, none⟩ (.slice (some ⟨g, 0, none⟩) (n + 1) cap)) := Stay.set _ _ _ _ rfl
      have f2 := hs2.at_ h1.bt_ (hap _ _ _ _ h1.bt_ (by decide))
      have nl : bl ≠ bt := other_of h.bl_ h.bt_ (by decide)
      have na : ba ≠ bt := other_of h.ba_ h.bt_ (by decide)
      have nw : bw ≠ bt := other_of h.bw_ h.bt_ (by decide)
      have hrow2 : Row X.B (.slice (some ⟨g, 0, none⟩) (n + 1) cap) (tl ++ [b]) w2 := by unfold Row; simpa [hnn] using q1
      have hrow3 : Row X.B (.slice (some ⟨g, 0, none⟩) (n + 1) cap) (tl ++ [b]) (w2.setCell ⟨bt, 0, none⟩ (.slice (some ⟨g, 0, none⟩) (n + 1) cap)) := hrow2.stay hs3 (fun x hx e => by
        obtain ⟨cur, e3⟩ := hrow2.block hx
        exact other_of e3 f2 (by decide) e)
      refine ⟨.slice (some ⟨g, 0, none⟩) (n + 1) cap, ⟨hs3.at_ (hs2.at_ h1.bl_ (hap _ _ _ _ h1.bl_ (by decide))) nl, hs3.at_ (hs2.at_ h1.ba_ (hap _ _ _ _ h1.ba_ (by decide))) na, hs3.at_ (hs2.at_ h1.bw_ (hap _ _ _ _ h1.bw_ (by decide))) nw, ?_, ?_, ?_, ?_⟩, ?_, ?_⟩
      · rw [heap_setCell_same w2 bt 0 _ 63 _ f2]; rfl
      · simpa using hrow3
      · intro x hx
        obtain ⟨tt, sq, du, e⟩ := h1.pd x hx
        exact ⟨tt, sq, du, hs3.at_ (hs2.at_ e (hap _ _ _ _ e (by decide))) (other_of e h1.bt_ (by decide))⟩
      · exact Nat.le_trans h1.hB (Nat.le_trans hs2.size hs3.size)
      · exact ((hs1.mono (fun _ _ e => e.elim)).trans (hs2.mono (fun _ _ e => .inr e))).trans (hs3.mono (fun _ _ e => .inl e))
      · rcases q3 with e | e
        · exact .inl (by rw [e]; rfl)
        · exact .inr ⟨g, rfl, by omega⟩
    have ct2 : Hid (∀ w2, W1.grownBy w2 vt.ownBlock → w2.cell? ⟨bt, 0, none⟩ = some vt ∧ w2.frozen? ⟨bt, 0, none⟩ = false) := fun w2 q2 => by
      have hs2 : Stay (fun x => vt.ownBlock = some x) W1 w2 := Stay.grown q2 (fun g hg => hg)
      have f2 := hs2.at_ h1.bt_ (fun e2 => by
        obtain ⟨cur, e3⟩ := h1.tr.block e2
        exact other_of h1.bt_ e3 (by decide) rfl)
      exact ⟨cell_in f2 rfl, free_in f2⟩
    rw [hnn] at hn
    have HW : Hid ((W.alloc (.cells #[ptr b] 71)).drew = W1 ∧ W.heap.size = D) := ⟨hW1.symm, hD⟩
    have hv : ∃ p m c, vt = .slice p m c := by
      rcases h.tr.parts with ⟨rfl, _⟩ | ⟨g, cap, cur, rfl, _⟩
      · exact ⟨_, _, _, rfl⟩
      · exact ⟨_, _, _, rfl⟩
    obtain ⟨vp, vm, vc, rfl⟩ := hv
    clear h h1 hdr hpd hpk hD1 hs1 hW1 hD hnn hi0 hz0 hz1 hz2
    go_enter Ybaf.func120, Ybaf.ntmps120
    go_wp2_with fail
    refine Calls.mono hpick.out ?_
    rintro e wz ⟨rfl, hwz⟩
    rw [hwz]
    clear hwz
    go_wp2_with (at_builtin; rw [HW.out.1, HW.out.2]; refine wpList_append_lies _ (by rfl) _ _ _ (by rfl) X.B 71 i0 _ 1 8 Ybaf.underlying63 hI.out.1 hI.out.2.1 hI.out.2.2.1 hI.out.2.2.2 rfl (by omega) _ _ (tl.map ptr) (by rfl) hr.out ⟨D, 0, none⟩ 1 1 [ptr b] (by rfl) (by rfl) hnews.out (by simp [Value.oneCell']) (by omega) (bound_max (by omega)) (by omega) hsz.out.2 (D + 1) hsz.out.1 ?_; intro gg cp w2 hown hgrow hat hlt; have hP : Hid _ := hfin.out gg cp w2 hown hgrow hat; have hc2 := (ct2.out w2 hgrow).1; have hz2 := (ct2.out w2 hgrow).2; clear hown hgrow hat hlt ct)
    go_ret
    exact ⟨rfl, hP.out⟩
end Go.Proofs.YbulkcoecFmt
