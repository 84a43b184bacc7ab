import Derived.Test.YbulkcoguDoorPlace
import Derived.Test.YbulkcoguDoorBlk
import Derived.Laws.CopyOwn
import Derived.Lib.SliceRun
namespace Go.Proofs.YbulkcoguDoor
open Go.RowKit Go.Deep
set_option linter.unusedVariables false
set_option linter.unusedSimpArgs false

theorem Ybad.info49' : (Ybad.prog.info? 49).map (fun i => (i.zero, i.size, i.bytes)) = some (some (.int .u64 0), 1, 8) := by kernel_rfl
theorem Ybad.size49 : (Ybad.prog.info? 49).map (·.size) = some 1 := by kernel_rfl
theorem Ybad.size3 : (Ybad.prog.info? 3).map (·.size) = some 1 := by kernel_rfl

set_option maxRecDepth 100000 in
/-- slices.Clone of ints. -/
theorem clone3_any (b n c : Nat) (xs : List Value) (hx : xs.length = n) (hn : n ≤ 1000) (h1 : ∀ u ∈ xs, u.oneCell' = true) (w : World) (hb : b < w.heap.size) (hc : ∀ (j : Nat) u, xs[j]? = some u → w.cell? ⟨b, j, none⟩ = some u) :
    Calls Ybad.prog 11 #[.slice (some ⟨b, 0, none⟩) n c] w fun e w' => ∃ v, e = .returned v ∧ w'.ownsRow w.heap.size 3 1 v n xs ∧ v ≠ .slice none 0 0 ∧ Below w.heap.size w w' := by
  obtain ⟨i0, hi0, hz0, hz1, hz2⟩ := info_parts Ybad.info3
  have HI : Hid (Ybad.prog.info? 3 = some i0 ∧ i0.zero = some (.int .i64 0) ∧ i0.size = 1 ∧ i0.bytes = 8) := ⟨hi0, hz0, hz1, hz2⟩
  have HC : Hid (∀ (o : Obj) (j : Nat) u, xs[j]? = some u → (w.alloc o).cell? ((⟨b, 0, none⟩ : Addr).add j) = some u) := fun o j u hu => by
    rw [Addr.add_lit, Nat.zero_add, ← hc j u hu]
    exact World.cell?_of_block (w := w) (Below.heap_alloc _ _ _ hb)
  have H1 : Hid (∀ u ∈ xs, u.oneCell' = true) := h1
  have HX : Hid (xs.length = n) := hx
  clear hi0 hz0 hz1 hz2 hc h1 hx
  have q : ∀ (w : World) (a : Option Addr) (n c n' c' : Nat), (binOp .eql 28 (.slice a n c) (.slice none n' c')).run Ybad.prog w = .ok (.bool a.isNone) w := fun w a n c n' c' => Lib.run_eql_slice_nil w _ _ a n c n' c' Ybad.underlying28
  go_enter Ybad.func11, Ybad.ntmps11
  go_wp2_with (at_builtin; go_loud (refine wpList_append_own _ (by rfl) _ _ _ (by rfl) w.heap.size 3 i0 _ 1 8 Ybad.underlying28 HI.out.1 HI.out.2.1 HI.out.2.2.1 HI.out.2.2.2 rfl (by omega) (.slice (some ⟨w.heap.size, 0, none⟩) 0 0) 0 [] (by rfl) (World.ownsRow_lit w #[] 0 (Nat.le_refl _) (by unfold maxLen; omega) rfl) ⟨b, 0, none⟩ n c xs (by rfl) (by rw [HX.out]; omega) (HC.out _) H1.out (by unfold maxLen; omega) (by omega) (by simp) ?_; intro v' w1 hown hgrow hnil; have HO : Hid _ := hown; have HG : Hid _ := hgrow; have HNIL : Hid _ := hnil; clear hown hgrow hnil))
  go_ret
  refine ⟨v', rfl, ?_, fun e => ?_, ?_⟩
  · have h9 : w1.ownsRow w.heap.size 3 1 v' (0 + n) ([] ++ xs) := HO.out
    rw [Nat.zero_add] at h9
    exact h9
  · have := HNIL.out.1 e
    cases this.1
  · exact ((Below.refl _ w).alloc (Nat.le_refl _) _).grown HG.out (by simp) (fun k e => by cases e; exact Nat.le_refl _)

set_option maxRecDepth 100000 in
/-- slices.Clone of words. -/
theorem clone49_any (b n c : Nat) (xs : List Value) (hx : xs.length = n) (hn : n ≤ 1000) (h1 : ∀ u ∈ xs, u.oneCell' = true) (w : World) (hb : b < w.heap.size) (hc : ∀ (j : Nat) u, xs[j]? = some u → w.cell? ⟨b, j, none⟩ = some u) :
    Calls Ybad.prog 10 #[.slice (some ⟨b, 0, none⟩) n c] w fun e w' => ∃ v, e = .returned v ∧ w'.ownsRow w.heap.size 49 1 v n xs ∧ v ≠ .slice none 0 0 ∧ Below w.heap.size w w' := by
  obtain ⟨i0, hi0, hz0, hz1, hz2⟩ := info_parts Ybad.info49'
  have HI : Hid (Ybad.prog.info? 49 = some i0 ∧ i0.zero = some (.int .u64 0) ∧ i0.size = 1 ∧ i0.bytes = 8) := ⟨hi0, hz0, hz1, hz2⟩
  have HC : Hid (∀ (o : Obj) (j : Nat) u, xs[j]? = some u → (w.alloc o).cell? ((⟨b, 0, none⟩ : Addr).add j) = some u) := fun o j u hu => by
    rw [Addr.add_lit, Nat.zero_add, ← hc j u hu]
    exact World.cell?_of_block (w := w) (Below.heap_alloc _ _ _ hb)
  have H1 : Hid (∀ u ∈ xs, u.oneCell' = true) := h1
  have HX : Hid (xs.length = n) := hx
  clear hi0 hz0 hz1 hz2 hc h1 hx
  have q : ∀ (w : World) (a : Option Addr) (n c n' c' : Nat), (binOp .eql 23 (.slice a n c) (.slice none n' c')).run Ybad.prog w = .ok (.bool a.isNone) w := fun w a n c n' c' => Lib.run_eql_slice_nil w _ _ a n c n' c' Ybad.underlying23
  go_enter Ybad.func10, Ybad.ntmps10
  go_wp2_with (at_builtin; go_loud (refine wpList_append_own _ (by rfl) _ _ _ (by rfl) w.heap.size 49 i0 _ 1 8 Ybad.underlying23 HI.out.1 HI.out.2.1 HI.out.2.2.1 HI.out.2.2.2 rfl (by omega) (.slice (some ⟨w.heap.size, 0, none⟩) 0 0) 0 [] (by rfl) (World.ownsRow_lit w #[] 0 (Nat.le_refl _) (by unfold maxLen; omega) rfl) ⟨b, 0, none⟩ n c xs (by rfl) (by rw [HX.out]; omega) (HC.out _) H1.out (by unfold maxLen; omega) (by omega) (by simp) ?_; intro v' w1 hown hgrow hnil; have HO : Hid _ := hown; have HG : Hid _ := hgrow; have HNIL : Hid _ := hnil; clear hown hgrow hnil))
  go_ret
  refine ⟨v', rfl, ?_, fun e => ?_, ?_⟩
  · have h9 : w1.ownsRow w.heap.size 49 1 v' (0 + n) ([] ++ xs) := HO.out
    rw [Nat.zero_add] at h9
    exact h9
  · have := HNIL.out.1 e
    cases this.1
  · exact ((Below.refl _ w).alloc (Nat.le_refl _) _).grown HG.out (by simp) (fun k e => by cases e; exact Nat.le_refl _)

/-- w' is w but for block g. -/
structure But (g : Nat) (w w' : World) : Prop where
  os : w'.os = w.os
  tape : w'.tape = w.tape
  output : w'.output = w.output
  size : w'.heap.size = w.heap.size
  other : ∀ k, k ≠ g → w'.heap[k]? = w.heap[k]?

/-- copy over a whole row, as a step of a region that draws. -/
theorem step_copy_but {P : Program} {ops : Array Oper} {o : Oper} {a : Act} {w : World} {K : Act → World → Prop} {Q : Exit → Act → World → Prop} {E : Prop} (hgd : o.guard = none) (d s : Operand) (dT sT : TypeId)
    (ho : o.op = .call { callee := .builtin .copy, args := #[d, s], argTypes := #[dT, sT] }) (elem : TypeId) (hu : P.underlying dT = some (.slice elem)) (hsz : (P.info? elem).map (·.size) = some 1)
    (g n dCap : Nat) (ad : Addr) (sCap : Nat) (hd : a.eval d = .slice (some ⟨g, 0, none⟩) n dCap) (hs : a.eval s = .slice (some ad) n sCap)
    (cur : Array Value) (t : TypeId) (hg : w.heap[g]? = some (.cells cur t (0, 0))) (cs : List Value) (hn : cs.length = n)
    (hsrc : ∀ j v, cs[j]? = some v → w.cell? (ad.add j) = some v) (hfit : cur.size = n) (h1 : ∀ v ∈ cs, v.oneCell' = true)
    (h : ∀ w', w'.heap[g]? = some (.cells cs.toArray t (0, 0)) → But g w w' → K (a.put o.dst (goInt n)) w') :
    if Region.wanted o (yielded ops a.tmps) = true then Oper.wp P o a w K Q else E := by
  have hw : Region.wanted o (yielded ops a.tmps) = true := by simp [Region.wanted, hgd]
  rw [if_pos hw]
  have hrun := run_copy_row (P := P) w dT sT o.type elem g 0 n dCap ad n sCap cur t cs hu hsz hg (by rw [hn]; simp) hsrc (by omega) h1
  unfold Oper.wp
  simp [execOp, ho, resolve, invoke, builtin, hd, hs, hrun, Result.andThen]
  rw [hn]
  have e : cs ++ cur.toList.drop n = cs := by rw [List.drop_of_length_le (by rw [Array.length_toList]; omega), List.append_nil]
  refine h _ ?_ ⟨rfl, rfl, rfl, by simp [World.setRow], fun k hk => setRow_other w g k _ hk⟩
  rw [e]
  exact setRow_heap w g _ cs.toArray t _ hg

/-- The bits are as at the root. -/
theorem Sta.resetBits {L : Lay} {st : St} {w w' : World} (h : Sta L st w) (G : Good L) {arr : Array Value} {x : Nat} (hb : w'.heap[L.bB]? = some (.cells arr 49 (0, 0))) (hB : But L.bB w w') (ho : ∀ o, o ≠ 2 * L.n → arr[o]? = L.w1.cell? ⟨L.bB, o, none⟩) (hx : arr[2 * L.n]? = some (.int .u64 (x : Nat))) (hkd : kindOf L.w1 L.bB = some (arr.size, 49, (0, 0))) : Sta L { st with live := x } w' := by
  have := G.BW; have := G.BS; have := G.BG; have := G.BK; have := G.BV; have := G.Bl
  have hz := h.core.fix.size
  have hfix : Fix L w' := by
    refine ⟨hB.os.trans h.core.fix.os, hB.tape.trans h.core.fix.tape, hB.output.trans h.core.fix.output, by rw [hB.size]; exact hz, fun b hb1 hb2 => (hB.other b (fun e => hb2 (by simp [Lay.Spec, e]))).trans (h.core.fix.blk b hb1 hb2), fun b o hb1 hb2 => ?_, fun b o hb1 => ?_, fun b hb1 => ?_⟩
    · by_cases he : b = L.bB
      · subst he
        have ho2 : o ≠ 2 * L.n := fun e => hb2 (by simp [Lay.Dyn, e])
        rw [← ho o ho2]
        simp [World.cell?, hb]
      · exact (World.cell?_of_block (w := w) (hB.other b he)).trans (h.core.fix.cel b o hb1 hb2)
    · by_cases he : b = L.bB
      · subst he
        rw [free_in hb, G.free L.bB (by simp [Lay.Spec]) o]
      · exact (World.frozen?_of_block (w := w) (hB.other b he)).trans (h.core.fix.frz b o hb1)
    · by_cases he : b = L.bB
      · subst he
        rw [hkd]
        simp [kindOf, hb]
      · exact (kind_same (hB.other b he)).trans (h.core.fix.knd b hb1)
  have hoth : ∀ b, b ≠ L.bB → ∀ o, w'.cell? ⟨b, o, none⟩ = w.cell? ⟨b, o, none⟩ := fun b hb o => World.cell?_of_block (w := w) (hB.other b hb)
  refine ⟨⟨hfix, (hoth _ (by omega) _).trans h.core.tk, cell_in hb hx, fun u hu => (hoth _ (by omega) _).trans (h.core.wt u hu), fun g hg => (hoth _ (by omega) _).trans (h.core.lf g hg), fun o v hv => (hoth _ (by omega) _).trans (h.core.kd o v hv)⟩, ?_⟩
  exact (h.rest.far (by rw [hB.size]; exact Nat.le_refl _) (fun b hb1 hb2 => hB.other b (by omega))).of st.taken x st.wt st.lf st.pc

/-- The waiting counts are as at the root. -/
theorem Sta.resetWait {L : Lay} {st : St} {w w' : World} (h : Sta L st w) (G : Good L) {arr : Array Value} {f : Nat → Int} (hb : w'.heap[L.bW]? = some (.cells arr 3 (0, 0))) (hB : But L.bW w w') (hx : ∀ u, u < L.n → arr[u]? = some (.int .i64 (f u))) (hkd : kindOf L.w1 L.bW = some (arr.size, 3, (0, 0))) : Sta L { st with wt := f } w' := by
  have := G.BW; have := G.KW; have := G.SW; have := G.WG; have := G.WV; have := G.Wl
  have hz := h.core.fix.size
  have hfix : Fix L w' := by
    refine ⟨hB.os.trans h.core.fix.os, hB.tape.trans h.core.fix.tape, hB.output.trans h.core.fix.output, by rw [hB.size]; exact hz, fun b hb1 hb2 => (hB.other b (fun e => hb2 (by simp [Lay.Spec, e]))).trans (h.core.fix.blk b hb1 hb2), fun b o hb1 hb2 => ?_, fun b o hb1 => ?_, fun b hb1 => ?_⟩
    · exact (World.cell?_of_block (w := w) (hB.other b (fun e => hb2 (by simp [Lay.Dyn, e])))).trans (h.core.fix.cel b o hb1 hb2)
    · by_cases he : b = L.bW
      · subst he
        rw [free_in hb, G.free L.bW (by simp [Lay.Spec]) o]
      · exact (World.frozen?_of_block (w := w) (hB.other b he)).trans (h.core.fix.frz b o hb1)
    · by_cases he : b = L.bW
      · subst he
        rw [hkd]
        simp [kindOf, hb]
      · exact (kind_same (hB.other b he)).trans (h.core.fix.knd b hb1)
  have hoth : ∀ b, b ≠ L.bW → ∀ o, w'.cell? ⟨b, o, none⟩ = w.cell? ⟨b, o, none⟩ := fun b hb o => World.cell?_of_block (w := w) (hB.other b hb)
  refine ⟨⟨hfix, (hoth _ (by omega) _).trans h.core.tk, (hoth _ (by omega) _).trans h.core.lv, fun u hu => cell_in hb (hx u hu), fun g hg => (hoth _ (by omega) _).trans (h.core.lf g hg), fun o v hv => (hoth _ (by omega) _).trans (h.core.kd o v hv)⟩, ?_⟩
  exact (h.rest.far (by rw [hB.size]; exact Nat.le_refl _) (fun b hb1 hb2 => hB.other b (by omega))).of st.taken st.live f st.lf st.pc

/-- saved is made: while nothing is recorded. -/
theorem Sta.setVs {L : Lay} {st : St} {w : World} (h : Sta L st w) (G : Good L) (hr : st.rc = false) (b : Nat) (hb : ∀ o, st.fo b = some o → False) (hp : st.vp.ownBlock ≠ some b) (hm : st.vm.ownBlock ≠ some b) (he : st.ve.ownBlock ≠ some b) (hC : st.ch = true → st.bC ≠ b) (hT : st.ch = true → st.bT ≠ b) (v : Value) :
    Sta L { st with vs := v, bV := b, sv := 0, col := recol st.col b 6 } (w.setCell ⟨L.K, 24, none⟩ v) := by
  have hrr : Side L { st with vs := v, bV := b, sv := 0, col := recol st.col b 6 } w := ⟨h.rest.rp, h.rest.rm, h.rest.re, h.rest.tc, h.rest.t0, h.rest.tb, fun hh => (by rw [show ({ st with vs := v, bV := b, sv := 0, col := recol st.col b 6 } : St).rc = st.rc from rfl, hr] at hh; cases hh),
    fun g hg => (recol_old (fun x : g = b => hp (x ▸ hg))).trans (h.rest.cp g hg), fun g hg => (recol_old (fun x : g = b => hm (x ▸ hg))).trans (h.rest.cm g hg), fun g hg => (recol_old (fun x : g = b => he (x ▸ hg))).trans (h.rest.ce g hg),
    fun hc => ⟨(recol_old (hC hc)).trans (h.rest.cC hc).1, (h.rest.cC hc).2⟩, fun hc => ⟨(recol_old (hT hc)).trans (h.rest.cT hc).1, (h.rest.cT hc).2⟩, fun hh => (by rw [show ({ st with vs := v, bV := b, sv := 0, col := recol st.col b 6 } : St).rc = st.rc from rfl, hr] at hh; cases hh), h.rest.fo, fun k o hk => ⟨(recol_old (fun x : k = b => hb o (x ▸ hk))).trans (h.rest.cF k o hk).1, (h.rest.cF k o hk).2⟩⟩
  exact ⟨h.core.setK (st' := { st with vs := v, bV := b, sv := 0, col := recol st.col b 6 }) G (by simp [Lay.Dyn]) rfl rfl (kd_other (by simp) (by simp) (by simp) (by simp) (by simp) (by simp) (by simp) (by simp)) rfl rfl rfl rfl, hrr.spec G (by simp) _⟩

/-- Two stores into one block. -/
theorem set_comm (w : World) (b o o' : Nat) (v v' : Value) (h : o ≠ o') : (w.setCell ⟨b, o, none⟩ v).setCell ⟨b, o', none⟩ v' = (w.setCell ⟨b, o', none⟩ v').setCell ⟨b, o, none⟩ v := by
  have : ((w.heap.modify b (fun
      | .cells c elem frozen => .cells (c.setIfInBounds o v) elem frozen
      | o => o)).modify b (fun
      | .cells c elem frozen => .cells (c.setIfInBounds o' v') elem frozen
      | o => o)) = ((w.heap.modify b (fun
      | .cells c elem frozen => .cells (c.setIfInBounds o' v') elem frozen
      | o => o)).modify b (fun
      | .cells c elem frozen => .cells (c.setIfInBounds o v) elem frozen
      | o => o)) := by
    apply Array.ext_getElem?
    intro k
    simp only [Array.getElem?_modify]
    by_cases hk : b = k
    · simp only [if_pos hk, Option.map_map]
      cases w.heap[k]? with
      | none => rfl
      | some ob =>
        cases ob <;> simp
        exact Array.setIfInBounds_comm _ _ h
    · simp only [if_neg hk]
  exact congrArg (fun hp => ({ w with heap := hp } : World)) this
end Go.Proofs.YbulkcoguDoor
