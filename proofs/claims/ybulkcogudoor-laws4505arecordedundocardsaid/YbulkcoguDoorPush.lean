import Derived.Test.YbulkcoguDoorTrail
import Derived.Test.YbulkcoguDoorIdle
import Derived.Test.YbulkcoguDoorLast
namespace Go.Proofs.YbulkcoguDoor
open Go.RowKit Go.Deep
set_option linter.unusedVariables false
set_option linter.unusedSimpArgs false

/-- (*trail).push: the chunk is there. -/
theorem push_next {L : Lay} (G : Good L) {st : St} {w : World} (h : Sta L st w) (hc : st.ch = true) (hl : st.tr.length ≤ 100) (x : Nat) (hx : x < 512) :
    Calls Ybad.prog 27 #[.pointer (some ⟨L.K, 22, none⟩), .agg #[.int .i64 (2 * L.n : Nat), .int .u64 x]] w fun e w' => e = .returned (.tuple #[]) ∧ Sta L { st with tr := st.tr ++ [x] } w' := by
  obtain ⟨a1, a2, a3, a4⟩ := h.rest.tc hc
  obtain ⟨b1, cur, b2, b3, b4⟩ := h.rest.tb hc
  have k22 : w.cell? ⟨L.K, 22, none⟩ = some (.slice (some ⟨st.bC, 0, none⟩) 1 st.kc) := a1 ▸ h.core.kd 22 _ rfl
  have k23 : w.cell? ⟨L.K, 23, none⟩ = some (.int .i64 (st.tr.length : Nat)) := h.core.kd 23 _ rfl
  have f23 : w.frozen? ⟨L.K, 23, none⟩ = false := h.core.fix.fr G (b := L.K) (by simp [Lay.Spec]) 23
  obtain ⟨u1, hT1⟩ : ∃ u, w.cell? ⟨st.bT, 2 * st.tr.length, none⟩ = some u := ⟨_, cell_in b2 (Array.getElem?_eq_getElem (by omega))⟩
  obtain ⟨u2, hT2⟩ : ∃ u, w.cell? ⟨st.bT, 2 * st.tr.length + 1, none⟩ = some u := ⟨_, cell_in b2 (Array.getElem?_eq_getElem (by omega))⟩
  have fT1 : w.frozen? ⟨st.bT, 2 * st.tr.length, none⟩ = false := free_in b2
  have fT2 : w.frozen? ⟨st.bT, 2 * st.tr.length + 1, none⟩ = false := free_in b2
  have HS : Hid (Sta L st w) := h
  have lK : L.K < w.heap.size := Nat.lt_of_lt_of_le G.Kl h.core.fix.size
  obtain ⟨N, hN⟩ : ∃ N, st.tr.length = N := ⟨_, rfl⟩
  rw [hN] at k23 hT1 hT2 fT1 fT2 hl
  have hTK : st.bT ≠ L.K := by have := (h.rest.cT hc).2; have := G.Kl; omega
  have hd0 : N / 4096 = 0 := by omega
  have hm0 : N % 4096 = N := by omega
  rw [Nat.mul_comm] at hT1 hT2 fT1 fT2
  clear h b4 a1 b2 b3
  go_enter Ybad.func27, Ybad.ntmps27
  go_wp2
  go_quiet (fail)
  go_wp2
  go_region
  go_wp2
  go_end0
  refine ⟨rfl, ?_⟩
  have HB := HS.out.below G (Below.alloc (Below.refl _ w) (Nat.le_refl _) (Obj.cells #[Value.int IntKind.i64 (2 * L.n : Nat), Value.int IntKind.u64 x] 72))
  have := (HB.drewN (nq + 1)).entry G hc x (by rw [hN]; omega) rfl
  rw [hN] at this
  simpa [Nat.mul_comm] using this
/-- (*trail).push: the first chunk. -/
theorem Ybad.info72 : (Ybad.prog.info? 72).map (fun i => (i.zero, i.size, i.bytes)) = some (some (.agg #[.int .i64 0, .int .u64 0]), 2, 16) := by kernel_rfl
theorem Ybad.info73 : (Ybad.prog.info? 73).map (fun i => (i.zero, i.size, i.bytes)) = some (some (.slice none 0 0), 1, 24) := by kernel_rfl

theorem make_chunk : ∃ C : Array Value, C.size = 8192 ∧ ∀ w : World, (Instr.makeSlice 73 (.int .i64 4096) (.int .i64 4096)).run Ybad.prog w = .ok (.slice (some ⟨w.heap.size, 0, none⟩) 4096 4096) (w.alloc (.cells C 72)) := by
  obtain ⟨i, hi, hzz⟩ := Option.map_eq_some_iff.1 Ybad.info72
  simp only [Prod.mk.injEq] at hzz
  obtain ⟨hz, hs, hb⟩ := hzz
  refine ⟨madeCells (Value.agg #[.int .i64 0, .int .u64 0]).cells 8192, size_madeCells _ _, fun w => ?_⟩
  have := run_make (P := Ybad.prog) w 73 72 i _ Ybad.underlying73 hi hz .i64 .i64 4096 4096 (by omega) (by omega) (by rw [hb]; omega) (by omega)
  rw [hs] at this
  exact this

set_option maxHeartbeats 1000000 in
theorem push_first {L : Lay} (G : Good L) {st : St} {w : World} (h : Sta L st w) (hc : st.ch = false) (x : Nat) (hx : x < 512) :
    Calls Ybad.prog 27 #[.pointer (some ⟨L.K, 22, none⟩), .agg #[.int .i64 (2 * L.n : Nat), .int .u64 x]] w fun e w' => e = .returned (.tuple #[]) ∧
      ∃ vc bC kc bT col, Sta L { st with tr := st.tr ++ [x], ch := true, vc := vc, bC := bC, kc := kc, bT := bT, col := col } w' := by
  obtain ⟨a1, a2⟩ := h.rest.t0 hc
  have k22 : w.cell? ⟨L.K, 22, none⟩ = some (.slice none 0 0) := a1 ▸ h.core.kd 22 _ rfl
  have k23 : w.cell? ⟨L.K, 23, none⟩ = some (.int .i64 0) := by have := h.core.kd 23 _ rfl; rwa [a2] at this
  have f23 : w.frozen? ⟨L.K, 23, none⟩ = false := h.core.fix.fr G (b := L.K) (by simp [Lay.Spec]) 23
  have f22 : w.frozen? ⟨L.K, 22, none⟩ = false := h.core.fix.fr G (b := L.K) (by simp [Lay.Spec]) 22
  have HS0 : Hid (Sta L st w) := h
  have lK : L.K < w.heap.size := Nat.lt_of_lt_of_le G.Kl h.core.fix.size
  obtain ⟨C, hC, m73⟩ := make_chunk
  obtain ⟨i0, hi, hz0, hz1, hz2⟩ := info_parts Ybad.info73
  have HI : Hid (Ybad.prog.info? 73 = some i0 ∧ i0.zero = some (.slice none 0 0) ∧ i0.size = 1 ∧ i0.bytes = 24) := ⟨hi, hz0, hz1, hz2⟩
  have HA : Hid (st.vc = .slice none 0 0 ∧ st.tr = []) := ⟨a1, a2⟩
  have HC : Hid (C.size = 8192) := hC
  clear h a1 a2 hi hz0 hz1 hz2 hC
  go_enter Ybad.func27, Ybad.ntmps27
  go_wp2
  go_quiet (fail)
  go_wp2
  obtain ⟨wa, hwa⟩ : ∃ wa, wa = ((w.alloc (Obj.cells #[Value.int IntKind.i64 (2 * L.n), Value.int IntKind.u64 x] 72)).drewN nq) := ⟨_, rfl⟩
  rw [← hwa]
  have hB0 : Below w.heap.size w wa := by rw [hwa]; exact ⟨rfl, rfl, rfl, by simp, fun k hk => Below.heap_alloc _ _ _ hk⟩
  have hsa : wa.heap.size = w.heap.size + 1 := by rw [hwa]; simp
  have hbox : wa.heap[w.heap.size]? = some (.cells #[Value.int IntKind.i64 (2 * L.n), Value.int IntKind.u64 x] 72 (0, 0)) := by rw [hwa]; exact heap_alloc_new w _
  have ka22 : wa.cell? ⟨L.K, 22, none⟩ = some (.slice none 0 0) := (hB0.cell (p := ⟨L.K, 22, none⟩) lK).trans k22
  have HB0 : Hid (Below w.heap.size w wa) := hB0
  have HBOX : Hid (wa.heap[w.heap.size]? = some (.cells #[Value.int IntKind.i64 (2 * L.n), Value.int IntKind.u64 x] 72 (0, 0))) := hbox
  have HSA : Hid (wa.heap.size = w.heap.size + 1) := hsa
  clear hwa hB0 hbox hsa
  refine wp_region_L (fun w' => w'.cell? ⟨L.K, 22, none⟩ = some (.slice none 0 0)) 10 11 (by kernel_rfl) (by kernel_rfl) ?_
  have HS : Hid ((fun w' : World => w'.cell? ⟨L.K, 22, none⟩ = some (.slice none 0 0)) wa.drew) := ka22
  refine wpL_take (i := 0) (v := ?_) rfl (by kernel_rfl) (by kernel_rfl) (by kernel_rfl) (by kernel_rfl) (fun _ _ _ h => h) (by rfl) ?_ HS.out ?_
  rotate_left
  · (intro wS hwS; (try dsimp only at hwS); go_simp; try with_reducible rfl)
  simp only [Act.put, List.getElem_toArray, List.getElem_cons_zero, List.getElem_cons_succ, List.setIfInBounds_toArray, List.set_cons_zero, List.set_cons_succ]
  refine wpL_take (i := 1) (v := ?_) rfl (by kernel_rfl) (by kernel_rfl) (by kernel_rfl) (by kernel_rfl) (fun _ _ _ h => h) (by rfl) ?_ HS.out ?_
  rotate_left
  · (intro wS hwS; (try dsimp only at hwS); go_simp; try with_reducible rfl)
  simp only [Act.put, List.getElem_toArray, List.getElem_cons_zero, List.getElem_cons_succ, List.setIfInBounds_toArray, List.set_cons_zero, List.set_cons_succ]
  refine wpL_take (i := 2) (v := ?_) rfl (by kernel_rfl) (by kernel_rfl) (by kernel_rfl) (by kernel_rfl) (fun _ _ _ h => h) (by rfl) ?_ HS.out ?_
  rotate_left
  · (intro wS hwS; (try dsimp only at hwS); go_simp; try with_reducible rfl)
  simp only [Act.put, List.getElem_toArray, List.getElem_cons_zero, List.getElem_cons_succ, List.setIfInBounds_toArray, List.set_cons_zero, List.set_cons_succ]
  refine wpL_take (i := 3) (v := ?_) rfl (by kernel_rfl) (by kernel_rfl) (by kernel_rfl) (by kernel_rfl) (fun _ _ _ h => h) (by rfl) ?_ HS.out ?_
  rotate_left
  · (intro wS hwS; (try dsimp only at hwS); go_simp; try with_reducible rfl)
  simp only [Act.put, List.getElem_toArray, List.getElem_cons_zero, List.getElem_cons_succ, List.setIfInBounds_toArray, List.set_cons_zero, List.set_cons_succ]
  refine wpL_take (i := 4) (v := ?_) rfl (by kernel_rfl) (by kernel_rfl) (by kernel_rfl) (by kernel_rfl) (fun _ _ _ h => h) (by rfl) ?_ HS.out ?_
  rotate_left
  · (intro wS hwS; (try dsimp only at hwS); go_simp; try with_reducible rfl)
  simp only [Act.put, List.getElem_toArray, List.getElem_cons_zero, List.getElem_cons_succ, List.setIfInBounds_toArray, List.set_cons_zero, List.set_cons_succ]
  have HS1 : Hid ((fun w' : World => w'.cell? ⟨L.K, 22, none⟩ = some (.slice none 0 0)) (wa.drew.alloc (.cells C 72))) := by
    show _ = _
    rw [← ka22]; exact World.cell?_of_block (w := wa) (Below.heap_alloc _ _ _ (World.block_lt_of_cell? _ _ ka22))
  refine wpL_one (i := 5) (by kernel_rfl) rfl (fun K hK => ?_)
  simp only [List.getElem_toArray, List.getElem_cons_zero, List.getElem_cons_succ]
  go_simp
  refine hK.out _ _ (fun _ => HS1.out) ?_
  clear hK K
  try simp only [Act.put, List.getElem_toArray, List.getElem_cons_zero, List.getElem_cons_succ, List.setIfInBounds_toArray, List.set_cons_zero, List.set_cons_succ]
  have HS2 : Hid ((fun w' : World => w'.cell? ⟨L.K, 22, none⟩ = some (.slice none 0 0)) ((wa.drew.alloc (.cells C 72)).alloc (.cells #[.slice (some ⟨wa.heap.size, 0, none⟩) 4096 4096] 73))) := by
    show _ = _
    rw [← HS1.out]; exact World.cell?_of_block (w := wa.drew.alloc (.cells C 72)) (Below.heap_alloc _ _ _ (World.block_lt_of_cell? _ _ HS1.out))
  refine wpL_one (i := 6) (by kernel_rfl) rfl (fun K hK => ?_)
  simp only [List.getElem_toArray, List.getElem_cons_zero, List.getElem_cons_succ]
  go_simp
  refine hK.out _ _ (fun _ => HS2.out) ?_
  clear hK K
  try simp only [Act.put, List.getElem_toArray, List.getElem_cons_zero, List.getElem_cons_succ, List.setIfInBounds_toArray, List.set_cons_zero, List.set_cons_succ]
  refine wpL_one (i := 7) (by kernel_rfl) rfl (fun K hK => ?_)
  refine step_append_lies _ (by rfl) _ _ _ (by rfl) 0 73 i0 _ 1 24 Ybad.underlying32 HI.out.1 HI.out.2.1 HI.out.2.2.1 HI.out.2.2.2 rfl (by omega) (.slice none 0 0) 0 [] (by rfl) (World.ownsRow_nil _ _ _ _) ⟨wa.heap.size + 1, 0, none⟩ 1 1 [.slice (some ⟨wa.heap.size, 0, none⟩) 4096 4096] (by rfl) (by rfl)
    (World.news_of_block (cs := #[.slice (some ⟨wa.heap.size, 0, none⟩) 4096 4096]) (t := 73) (fr := (0, 0)) (by have := heap_alloc_new (wa.alloc (.cells C 72)) (Obj.cells #[Value.slice (some ⟨wa.heap.size, 0, none⟩) 4096 4096] 73); rw [World.size_alloc] at this; exact this)) (by simp [Value.oneCell']) (by omega) (by unfold maxLen; omega) (by omega) (by simp) (wa.heap.size + 2) (by simp) ?_
  intro gg cap w3 hown1 hgrow hat hlt3
  have hat' : gg = wa.heap.size + 2 := by
    rcases hat with h | h
    · cases h
    · exact h
  have hold : ∀ k, k < wa.heap.size → w3.heap[k]? = wa.heap[k]? := fun k hk => (hgrow.block k (by simp; omega) (by simp [Value.ownBlock])).trans ((Below.heap_alloc _ _ k (by simp; omega)).trans (Below.heap_alloc _ _ k hk))
  have hC3 : w3.heap[wa.heap.size]? = some (.cells C 72 (0, 0)) := (hgrow.block wa.heap.size (by simp; omega) (by simp [Value.ownBlock])).trans ((Below.heap_alloc _ _ _ (by simp)).trans (heap_alloc_new wa _))
  have hB3 : Below w.heap.size w w3 := HB0.out.trans ⟨hgrow.os, hgrow.tape, hgrow.output, by have := hgrow.size; simp at this; omega, fun k hk => hold k (by have := HSA.out; omega)⟩
  have hcap : 1 ≤ cap := by
    rcases hown1.2 with ⟨h, _⟩ | ⟨g', cap', cur, hv, _, _, hn, _⟩
    · cases h
    · cases hv; exact hn
  have hcell : w3.cell? ⟨gg, 0, none⟩ = some (.slice (some ⟨wa.heap.size, 0, none⟩) 4096 4096) := by
    have := hown1.cells (g := gg) rfl 0 _ rfl
    rw [Addr.add_lit] at this
    exact this
  have r0 : w3.cell? ⟨L.K, 22, none⟩ = some (.slice none 0 0) := (hB3.cell (p := ⟨L.K, 22, none⟩) lK).trans k22
  have f3 : w3.frozen? ⟨L.K, 22, none⟩ = false := (hB3.frozen (p := ⟨L.K, 22, none⟩) lK).trans f22
  have HS3 : Hid ((fun w' : World => w'.cell? ⟨L.K, 22, none⟩ = some (.slice none 0 0)) w3) := r0
  have hsz := HSA.out
  have HST := HS0.out.chunk G hc hB3 (T := wa.heap.size) (g := gg) (cap := cap) (cur := C) (by omega) hC3 HC.out (by omega) (by omega) hlt3 hcap hcell
  obtain ⟨T, hT⟩ : ∃ T, T = wa.heap.size := ⟨_, rfl⟩
  have hbx : w3.heap[w.heap.size]? = some (.cells #[Value.int IntKind.i64 (2 * L.n), Value.int IntKind.u64 x] 72 (0, 0)) := (hold _ (by omega)).trans HBOX.out
  have HG : Hid (L.w1.heap.size ≤ w.heap.size) := HS0.out.core.fix.size
  have hgw : w.heap.size < gg := by omega
  have hgT : gg ≠ T := by omega
  have hwT : w.heap.size < T := by omega
  rw [← hT] at HST hC3 hcell
  refine hK.out _ _ (fun _ => HS3.out) ?_
  clear hK K hown1 hgrow hat hold hat' hT HS HS1 HS2 ka22
  try simp only [Act.put, List.getElem_toArray, List.getElem_cons_zero, List.getElem_cons_succ, List.setIfInBounds_toArray, List.set_cons_zero, List.set_cons_succ]
  refine wpL_one (i := 8) (by kernel_rfl) rfl (fun K hK => ?_)
  simp only [List.getElem_toArray, List.getElem_cons_zero, List.getElem_cons_succ]
  go_simp
  refine hK.out _ _ (fun _ => HS3.out) ?_
  clear hK K
  try simp only [Act.put, List.getElem_toArray, List.getElem_cons_zero, List.getElem_cons_succ, List.setIfInBounds_toArray, List.set_cons_zero, List.set_cons_succ]
  refine wpL_take (i := 9) (v := ?_) rfl (by kernel_rfl) (by kernel_rfl) (by kernel_rfl) (by kernel_rfl) (fun _ _ _ h => h) (by rfl) ?_ HS3.out ?_
  rotate_left
  · (intro wS hwS; (try dsimp only at hwS); go_simp; try with_reducible rfl)
  simp only [Act.put, List.getElem_toArray, List.getElem_cons_zero, List.getElem_cons_succ, List.setIfInBounds_toArray, List.set_cons_zero, List.set_cons_succ]
  refine wpL_one (i := 10) (by kernel_rfl) rfl (fun K hK => ?_)
  simp only [List.getElem_toArray, List.getElem_cons_zero, List.getElem_cons_succ]
  go_simp
  refine hK.out _ _ (fun h => absurd rfl h) ?_
  clear hK K
  refine wpL_done (by kernel_rfl) ?_ _
  obtain ⟨W, hW⟩ : ∃ W, W = w3.setCell ⟨L.K, 22, none⟩ (.slice (some ⟨gg, 0, none⟩) 1 cap) := ⟨_, rfl⟩
  rw [← hW]
  have hK3 : L.K < w3.heap.size := Nat.lt_of_lt_of_le lK hB3.size
  have c22 : W.cell? ⟨L.K, 22, none⟩ = some (.slice (some ⟨gg, 0, none⟩) 1 cap) := by rw [hW]; exact World.cell?_setCell_same _ _ _ r0
  have c23 : W.cell? ⟨L.K, 23, none⟩ = some (.int .i64 0) := by rw [hW]; exact (co (by omega)).trans ((hB3.cell (p := ⟨L.K, 23, none⟩) lK).trans k23)
  have g23 : W.frozen? ⟨L.K, 23, none⟩ = false := by rw [hW]; exact (frozen_setCell _ _ _ _).trans ((hB3.frozen (p := ⟨L.K, 23, none⟩) lK).trans f23)
  have cg : W.cell? ⟨gg, 0, none⟩ = some (.slice (some ⟨T, 0, none⟩) 4096 4096) := by rw [hW]; exact (co (by omega)).trans hcell
  have hkT : W.heap[T]? = some (.cells C 72 (0, 0)) := by rw [hW]; exact (Below.heap_setCell _ _ _ _ (by show T ≠ L.K; omega)).trans hC3
  have hC := HC.out
  obtain ⟨u1, cT0⟩ : ∃ u, W.cell? ⟨T, 0, none⟩ = some u := ⟨_, cell_in hkT (Array.getElem?_eq_getElem (by omega))⟩
  obtain ⟨u2, cT1⟩ : ∃ u, W.cell? ⟨T, 1, none⟩ = some u := ⟨_, cell_in hkT (Array.getElem?_eq_getElem (by omega))⟩
  have fT0 : W.frozen? ⟨T, 0, none⟩ = false := free_in hkT
  have fT1 : W.frozen? ⟨T, 1, none⟩ = false := free_in hkT
  have hkb : W.heap[w.heap.size]? = some (.cells #[Value.int IntKind.i64 (2 * L.n), Value.int IntKind.u64 x] 72 (0, 0)) := by rw [hW]; exact (Below.heap_setCell _ _ _ _ (by show w.heap.size ≠ L.K; omega)).trans hbx
  have cb0 : W.cell? ⟨w.heap.size, 0, none⟩ = some (.int .i64 (2 * L.n)) := cell_in hkb rfl
  have cb1 : W.cell? ⟨w.heap.size, 1, none⟩ = some (.int .u64 x) := cell_in hkb rfl
  have hTK : T ≠ L.K := by omega
  rw [← hW] at HST
  have HST' : Hid (Sta L { st with ch := true, vc := .slice (some ⟨gg, 0, none⟩) 1 cap, bC := gg, kc := cap, bT := T, col := recol (recol st.col T 5) gg 4 } W) := HST
  clear HST hW r0 f3 HS3 hcell hkT hkb hC3 hB3 hbx
  go_wp2
  go_region
  go_wp2
  go_end0
  refine ⟨rfl, .slice (some ⟨gg, 0, none⟩) 1 cap, gg, cap, T, recol (recol st.col T 5) gg 4, ?_⟩
  have hE := HST'.out.entry G rfl x (by show st.tr.length < 4000; rw [HA.out.2]; simp) rfl
  have e : ({ st with ch := true, vc := .slice (some ⟨gg, 0, none⟩) 1 cap, bC := gg, kc := cap, bT := T, col := recol (recol st.col T 5) gg 4 } : St).tr.length = 0 := by show st.tr.length = 0; rw [HA.out.2]; rfl
  rw [e] at hE
  simp at hE
  exact hE.drewN 1
end Go.Proofs.YbulkcoguDoor
