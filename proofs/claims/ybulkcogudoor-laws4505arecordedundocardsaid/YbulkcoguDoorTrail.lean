import Derived.Test.YbulkcoguDoorSta
namespace Go.Proofs.YbulkcoguDoor
open Go.RowKit Go.Deep
set_option linter.unusedVariables false
set_option linter.unusedSimpArgs false

/-- The first chunk of the trail has been made. -/
theorem Sta.chunk {L : Lay} {st : St} {w w' : World} (h : Sta L st w) (G : Good L) (hc : st.ch = false) (hB : Below w.heap.size w w') {T g cap : Nat} {cur : Array Value} (hT : w.heap.size ≤ T) (hTh : w'.heap[T]? = some (.cells cur 72 (0, 0))) (hs : cur.size = 8192)
    (hg : w.heap.size ≤ g) (hgT : g ≠ T) (hgl : g < w'.heap.size) (hcap : 1 ≤ cap) (hgc : w'.cell? ⟨g, 0, none⟩ = some (.slice (some ⟨T, 0, none⟩) 4096 4096)) :
    Sta L { st with ch := true, vc := .slice (some ⟨g, 0, none⟩) 1 cap, bC := g, kc := cap, bT := T, col := recol (recol st.col T 5) g 4 } (w'.setCell ⟨L.K, 22, none⟩ (.slice (some ⟨g, 0, none⟩) 1 cap)) := by
  have hw := h.below G hB
  have hz := h.core.fix.size
  have htr := (h.rest.t0 hc).2
  have hTl : T < w'.heap.size := (Array.getElem?_eq_some_iff.1 hTh).1
  have hold : ∀ b, b < w.heap.size → recol (recol st.col T 5) g 4 b = st.col b := fun b hb => by rw [recol_old (by omega), recol_old (by omega)]
  have hr : Side L { st with ch := true, vc := .slice (some ⟨g, 0, none⟩) 1 cap, bC := g, kc := cap, bT := T, col := recol (recol st.col T 5) g 4 } w' := by
    refine ⟨hw.rest.rp, hw.rest.rm, hw.rest.re, fun _ => ⟨rfl, hcap, hgl, hgc⟩, fun hh => (by cases hh), fun _ => ⟨hTl, cur, hTh, hs, fun i hi => ?_⟩, fun hh => ?_, ?_, ?_, ?_, fun _ => ⟨recol_new, by show _ ≤ g; omega⟩, fun _ => ⟨?_, by show _ ≤ T; omega⟩, fun hh => ?_, hw.rest.fo, fun b o hb => ⟨(hold b (Array.getElem?_eq_some_iff.1 (h.rest.fo b o hb)).1).trans (h.rest.cF b o hb).1, (h.rest.cF b o hb).2⟩⟩
    · simp [htr] at hi
    · obtain ⟨a1, a2, cu, a3, a4⟩ := h.rest.sv hh
      exact ⟨Nat.lt_of_lt_of_le a1 hB.size, a2, cu, (hB.block _ a1).trans a3, a4⟩
    · intro b hb
      show recol _ _ _ _ = _
      rw [hold b (h.rest.rp.lt _ hb).2]
      exact h.rest.cp _ hb
    · intro b hb
      show recol _ _ _ _ = _
      rw [hold b (h.rest.rm.lt _ hb).2]
      exact h.rest.cm _ hb
    · intro b hb
      show recol _ _ _ _ = _
      rw [hold b (h.rest.re.lt _ hb).2]
      exact h.rest.ce _ hb
    · show recol _ _ _ _ = _
      rw [recol_old (Ne.symm hgT), recol_new]
    · refine ⟨?_, (h.rest.cV hh).2⟩
      show recol _ _ _ _ = _
      rw [hold _ (h.rest.sv hh).1]
      exact (h.rest.cV hh).1
  exact ⟨hw.core.setK (st' := { st with ch := true, vc := .slice (some ⟨g, 0, none⟩) 1 cap, bC := g, kc := cap, bT := T, col := recol (recol st.col T 5) g 4 }) G (by simp [Lay.Dyn]) rfl rfl (kd_other (by simp) (by simp) (by simp) (by simp) (by simp) (by simp) (by simp) (by simp)) rfl rfl rfl rfl, hr.spec G (by simp) _⟩

/-- An entry of the trail has been written: the world ahead of 'len++'. -/
theorem Sta.entry {L : Lay} {st : St} {w w' : World} (h : Sta L st w) (G : Good L) (hc : st.ch = true) (x : Nat) (hl : st.tr.length < 4000)
    (hw : w' = (w.setCell ⟨st.bT, 2 * st.tr.length, none⟩ (.int .i64 (2 * L.n : Nat))).setCell ⟨st.bT, 2 * st.tr.length + 1, none⟩ (.int .u64 (x : Nat))) :
    Sta L { st with tr := st.tr ++ [x] } (w'.setCell ⟨L.K, 23, none⟩ (.int .i64 ((st.tr.length + 1 : Nat) : Int))) := by
  subst hw
  obtain ⟨c1, c2⟩ := h.rest.cT hc
  have := G.KV; have := G.SV; have := G.BV; have := G.WV; have := G.GV
  have := G.Kl; have := G.Sl; have := G.Bl; have := G.Wl; have := G.Gl; have := G.Vl
  have hne : ∀ g, st.col g ≠ 5 → g ≠ st.bT := by
    rintro g hg rfl
    exact hg c1
  have hkeep : ∀ b, b ≠ st.bT → ((w.setCell ⟨st.bT, 2 * st.tr.length, none⟩ (.int .i64 (2 * L.n : Nat))).setCell ⟨st.bT, 2 * st.tr.length + 1, none⟩ (.int .u64 (x : Nat))).heap[b]? = w.heap[b]? := fun b hb =>
    (Below.heap_setCell _ _ _ _ hb).trans (Below.heap_setCell _ _ _ _ hb)
  have hcore : Core L st ((w.setCell ⟨st.bT, 2 * st.tr.length, none⟩ (.int .i64 (2 * L.n : Nat))).setCell ⟨st.bT, 2 * st.tr.length + 1, none⟩ (.int .u64 (x : Nat))) :=
    h.core.far G ((h.core.fix.setCell (.inl c2) _).setCell (.inl c2) _) (fun b hb => hkeep b (by omega))
  have hr : Side L { st with tr := st.tr ++ [x] } ((w.setCell ⟨st.bT, 2 * st.tr.length, none⟩ (.int .i64 (2 * L.n : Nat))).setCell ⟨st.bT, 2 * st.tr.length + 1, none⟩ (.int .u64 (x : Nat))) := by
    refine ⟨row_kept h.rest.rp fun g hg _ _ => hkeep _ (hne g (by rw [h.rest.cp g hg]; decide)), row_kept h.rest.rm fun g hg _ _ => hkeep _ (hne g (by rw [h.rest.cm g hg]; decide)),
      row_kept h.rest.re fun g hg _ _ => hkeep _ (hne g (by rw [h.rest.ce g hg]; decide)), fun hh => ?_, fun hh => (by rw [hc] at hh; cases hh), fun hh => ?_, fun hh => ?_, h.rest.cp, h.rest.cm, h.rest.ce, h.rest.cC, h.rest.cT, h.rest.cV, fun b o hb => (hkeep b (hne b (by rw [(h.rest.cF b o hb).1]; decide))).trans (h.rest.fo b o hb), h.rest.cF⟩
    · obtain ⟨a1, a2, a3, a4⟩ := h.rest.tc hh
      exact ⟨a1, a2, by simpa using a3, (World.cell?_of_block (w := w) (hkeep _ (hne _ (by rw [(h.rest.cC hh).1]; decide)))).trans a4⟩
    · obtain ⟨a1, cur, a2, a3, a4⟩ := h.rest.tb hc
      refine ⟨by simpa using a1, (cur.setIfInBounds (2 * st.tr.length) (.int .i64 (2 * L.n : Nat))).setIfInBounds (2 * st.tr.length + 1) (.int .u64 (x : Nat)), ?_, by simpa using a3, fun i hi => ?_⟩
      · exact heap_setCell_same _ st.bT _ _ 72 _ (heap_setCell_same w st.bT _ cur 72 _ a2)
      · simp only [List.length_append, List.length_singleton] at hi
        by_cases hil : i < st.tr.length
        · have := a4 i hil
          rw [Array.getElem?_setIfInBounds_ne (by omega), Array.getElem?_setIfInBounds_ne (by omega), Array.getElem?_setIfInBounds_ne (by omega), Array.getElem?_setIfInBounds_ne (by omega)]
          simpa [List.getElem_append_left, hil] using this
        · have hie : i = st.tr.length := by omega
          subst hie
          rw [Array.getElem?_setIfInBounds_ne (by omega), Array.getElem?_setIfInBounds_self_of_lt (by omega), Array.getElem?_setIfInBounds_self_of_lt (by simp; omega)]
          simp
    · obtain ⟨a1, a2, cu, a3, a4⟩ := h.rest.sv hh
      exact ⟨by simpa using a1, a2, cu, (hkeep _ (hne _ (by rw [(h.rest.cV hh).1]; decide))).trans a3, a4⟩
  refine ⟨hcore.setK (st' := { st with tr := st.tr ++ [x] }) G (by simp [Lay.Dyn]) rfl (by simp [St.kdyn]) (kd_other (by simp) (by simp) (by simp) (by simp) (by simp) (by simp) (by simp) (by simp)) rfl rfl rfl rfl, hr.spec G (by simp) _⟩
end Go.Proofs.YbulkcoguDoor
