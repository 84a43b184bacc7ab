import Derived.Test.YbulkcoecFmtHInsert
namespace Go.Proofs.YbulkcoecFmt
open Go.RowKit Go.Deep
set_option linter.unusedVariables false
set_option linter.unusedSimpArgs false

theorem get_ins (l : List Nat) (i b t : Nat) (hi : i ≤ l.length) (ht : t < l.length + 1) : (l.take i ++ b :: l.drop i)[t]! = if t < i then l[t]! else if t = i then b else l[t - 1]! := by
  rw [getElem!_pos _ t (by simp; omega)]
  by_cases h1 : t < i
  · rw [if_pos h1, List.getElem_append_left (by simp; omega), getElem!_pos l t (by omega)]
    simp
  · rw [if_neg h1, List.getElem_append_right (by simp; omega)]
    by_cases h2 : t = i
    · subst h2
      rw [if_pos rfl]
      simp [Nat.min_eq_left hi]
    · rw [if_neg h2, getElem!_pos l (t - 1) (by omega)]
      have e : t - (l.take i).length = (t - 1 - i) + 1 := by simp; omega
      simp only [e, List.getElem_cons_succ, List.getElem_drop]
      congr 1; omega

theorem len_ins (l : List Nat) (i b : Nat) (hi : i ≤ l.length) : (l.take i ++ b :: l.drop i).length = l.length + 1 := by simp; omega

set_option maxRecDepth 100000 in
set_option maxHeartbeats 8000000 in
/-- slices.Insert of one pointer in the midst, with room. -/
theorem insert_room {B g cap : Nat} {cur : Array Value} {l : List Nat} {w : World} (h : RowAt B g cap cur l w) (hn : l.length ≤ 900) (b vb : Nat) (hvb : w.heap[vb]? = some (.cells #[ptr b] 71 (0, 0))) (hne : vb ≠ g) {i : Nat} (hi : i < l.length) (hroom : l.length + 1 ≤ cap) :
    Calls Ybaf.prog 118 #[.slice (some ⟨g, 0, none⟩) l.length cap, .int .i64 i, .slice (some ⟨vb, 0, none⟩) 1 1] w fun e w' =>
      ∃ v', e = .returned v' ∧ Row B v' (l.take i ++ b :: l.drop i) w' ∧ Stay (fun x => x = g) w w' ∧ v'.ownBlock = some g := by
  obtain ⟨n, hnn⟩ : ∃ n, l.length = n := ⟨_, rfl⟩
  have hc63 : cap ≤ 9223372036854775807 := h.max
  have hcl : (l.map ptr).length = n := by simp [hnn]
  have hdl : ((l.map ptr).drop i).length = n - i := by rw [List.length_drop, hcl]
  have hov : ∀ lb cb, (callFunc 130 #[.slice (some ⟨vb, 0, none⟩) 1 1, .slice (some ⟨g, i + 1, none⟩) lb cb]).run Ybaf.prog w = .ok (.value (.bool false)) w := fun lb cb =>
    overlap_any w vb g (i + 1) 1 1 lb cb 1 cap hne (by simp [World.shape?, hvb]) (by simp [World.shape?, h.at_, h.size]) (by omega) (free_in hvb) (free_in hvb)
  have hcs : ∀ j v, (l.map ptr)[j]? = some v → w.cell? ⟨g, j, none⟩ = some v := fun j v hj => by
    rw [List.getElem?_map] at hj
    by_cases hjl : j < l.length
    · rw [List.getElem?_eq_getElem hjl] at hj
      rw [h.cell j hjl, getElem!_pos l j hjl]
      exact hj
    · rw [List.getElem?_eq_none (by omega)] at hj; cases hj
  have hcp1 : ∀ ty dc sc, (Builtin.copy_ #[63, 63] ty #[.slice (some ⟨g, i + 1, none⟩) (n - i) dc, .slice (some ⟨g, i, none⟩) (n + 1 - i) sc]).run Ybaf.prog w.drew = .ok (goInt ((l.map ptr).drop i).length) (w.drew.setCells g (i + 1) ((l.map ptr).drop i)) := fun ty dc sc =>
    run_copy_cells w.drew _ _ ty 71 g (i + 1) (n - i) dc ⟨g, i, none⟩ (n + 1 - i) sc ((l.map ptr).drop i) Ybaf.underlying63 Ybaf.size71 (by rw [hdl]; simp only [Nat.min_def]; split <;> omega)
      (fun j v hj => by rw [Addr.add_lit]; exact hcs (i + j) v (by rwa [List.getElem?_drop] at hj))
      (fun j hj => h.there _ (by omega)) (fun j hj => h.free _) (fun v hv => by
        have := List.mem_of_mem_drop hv
        rw [List.mem_map] at this
        obtain ⟨x, _, rfl⟩ := this
        rfl)
  obtain ⟨c1, hc1, hs1, hg1⟩ := heap_setCells_at ((l.map ptr).drop i) (i + 1) w.drew cur h.at_
  obtain ⟨W1, hW1⟩ : ∃ W1, W1 = w.drew.setCells g (i + 1) ((l.map ptr).drop i) := ⟨_, rfl⟩
  have hst1 : Stay (fun x => x = g) w W1 := by rw [hW1]; exact Stay.of_drew (Stay.setCells (S := fun x => x = g) rfl _ _ _)
  rw [← hW1] at hcp1 hc1
  have hvb1 : W1.heap[vb]? = some (.cells #[ptr b] 71 (0, 0)) := hst1.at_ hvb hne
  have hcp2 : ∀ (W : World), (∀ x, W.cell? x = W1.cell? x) → (∀ x, W.frozen? x = W1.frozen? x) → ∀ ty dc, (Builtin.copy_ #[63, 63] ty #[.slice (some ⟨g, i, none⟩) (n + 1 - i) dc, .slice (some ⟨vb, 0, none⟩) 1 1]).run Ybaf.prog W = .ok (goInt [ptr b].length) (W.setCells g i [ptr b]) := fun W hWc hWf ty dc =>
    run_copy_cells W _ _ ty 71 g i (n + 1 - i) dc ⟨vb, 0, none⟩ 1 1 [ptr b] Ybaf.underlying63 Ybaf.size71 (by simp only [Nat.min_def, List.length_singleton]; split <;> omega)
      (fun j v hj => by
        cases j with
        | zero => simp at hj; subst hj; rw [hWc]; exact cell_in hvb1 (o := 0) rfl
        | succ j => simp at hj)
      (fun j hj => by
        rw [hWc]
        have e : c1[i + j]? = some c1[i + j]! := by rw [getElem!_pos c1 _ (by rw [hs1, h.size]; simp at hj; omega)]; exact Array.getElem?_eq_getElem _
        rw [cell_in hc1 e]; rfl)
      (fun j hj => by rw [hWf]; exact free_in hc1) (by simp [Value.oneCell'])
  obtain ⟨c2, hc2, hs2, hg2⟩ := heap_setCells_at [ptr b] i W1 c1 hc1
  have hfin : ∃ v', (Ending.returned (.slice (some ⟨g, 0, none⟩) (n + 1) cap)) = .returned v' ∧ Row B v' (l.take i ++ b :: l.drop i) (W1.setCells g i [ptr b]) ∧ Stay (fun x => x = g) w (W1.setCells g i [ptr b]) ∧ v'.ownBlock = some g := by
    have hlen := len_ins l i b (by omega)
    refine ⟨_, rfl, ?_, hst1.trans (Stay.setCells (S := fun x => x = g) rfl _ _ _), rfl⟩
    have hra : RowAt B g cap c2 (l.take i ++ b :: l.drop i) (W1.setCells g i [ptr b]) := by
      refine ⟨h.ge, hc2, by rw [hlen]; exact hroom, h.max, by rw [hs2, hs1, h.size], fun t ht => ?_⟩
      rw [hlen] at ht
      rw [get_ins l i b t (by omega) ht, hg2 t, hg1 t, hdl, hs1, h.size]
      by_cases h1 : t < i
      · rw [if_neg (by simp; omega), if_neg (by omega), if_pos h1]
        exact h.get t (by omega)
      · by_cases h2 : t = i
        · subst h2
          rw [if_pos ⟨Nat.le_refl _, by simp, by omega⟩, if_neg h1, if_pos rfl]
          simp
        · rw [if_neg (by simp; omega), if_pos ⟨by omega, by omega, by omega⟩, if_neg h1, if_neg h2, List.getElem?_drop, List.getElem?_map, show i + (t - (i + 1)) = t - 1 by omega, List.getElem?_eq_getElem (by omega), getElem!_pos l (t - 1) (by omega)]
          rfl
    have := hra.row
    rw [hlen, hnn] at this
    exact this
  have hfin : Hid _ := hfin
  have hov : Hid _ := hov
  have hcp1 : Hid _ := hcp1
  have hcp2 : Hid _ := hcp2
  rw [hnn]
  rw [hnn] at hn hi hroom
  clear hg1 hg2 hs1 hs2 hc1 hc2 hcs hvb1 hst1 hcl hdl h hvb hW1
  rename_i hfin0 hov0 hcp10 hcp20
  clear hfin0 hov0 hcp10 hcp20
  have hz2 : ¬ ((i : Int) = (n : Int)) := by omega
  have hw1 : IntKind.i64.wrap ((i : Int) + 1) = (i : Int) + 1 := by rw [IntKind.wrap_i64]; omega
  have hb1 : (0 : Int) ≤ (i : Int) + 1 := by omega
  have hin : i ≤ n := by omega
  have htn : ((i : Int) + 1).toNat = i + 1 := by omega
  have hb2 : ¬ (cap = i + 1) := by omega
  have hb3 : (i : Int) ≤ (n : Int) + 1 := by omega
  have hb4 : ¬ (cap = i) := by omega
  have hb5 : (n : Int) + 1 ≤ (cap : Int) := by omega
  go_enter Ybaf.func118, Ybaf.ntmps118
  go_wp2_with (simp only [hov.out])
  have hcpx := hcp1.out 3 (cap - (i + 1)) (cap - i)
  go_region
  clear hcpx
  have hcpy := hcp2.out W1 (fun _ => rfl) (fun _ => rfl) 3 (cap - i)
  go_wp2_with (at_builtin; refine wpList_copy_runI _ rfl _ _ 63 63 rfl _ _ rfl rfl hcpy ?_)
  go_ret
  exact hfin.out

set_option maxRecDepth 100000 in
set_option maxHeartbeats 8000000 in
/-- slices.Insert of one pointer in the midst, without room. -/
theorem insert_grow {B g cap : Nat} {cur : Array Value} {l : List Nat} {w : World} (h : RowAt B g cap cur l w) (hB : B ≤ w.heap.size) (hn : l.length ≤ 900) (b vb : Nat) (hvb : w.heap[vb]? = some (.cells #[ptr b] 71 (0, 0))) {i : Nat} (hi : i < l.length) (hroom : cap < l.length + 1) :
    Calls Ybaf.prog 118 #[.slice (some ⟨g, 0, none⟩) l.length cap, .int .i64 i, .slice (some ⟨vb, 0, none⟩) 1 1] w fun e w' =>
      ∃ v', e = .returned v' ∧ Row B v' (l.take i ++ b :: l.drop i) w' ∧ Stay (fun _ => False) w w' ∧ v'.ownBlock = some w.heap.size := by
  obtain ⟨n, hnn⟩ : ∃ n, l.length = n := ⟨_, rfl⟩
  obtain ⟨D, hD⟩ : ∃ D, w.heap.size = D := ⟨_, rfl⟩
  obtain ⟨i0, hi0, hz0, hzs, hzb⟩ := info_parts Ybaf.info71
  have hle := h.le
  have hc63 : cap ≤ 9223372036854775807 := h.max
  have hcl : (l.map ptr).length = n := by simp [hnn]
  have hdl : ((l.map ptr).drop i).length = n - i := by rw [List.length_drop, hcl]
  have hgl := lt_of h.at_
  have hvl := lt_of hvb
  have hcs : ∀ j v, (l.map ptr)[j]? = some v → w.cell? ⟨g, j, none⟩ = some v := fun j v hj => by
    rw [List.getElem?_map] at hj
    by_cases hjl : j < l.length
    · rw [List.getElem?_eq_getElem hjl] at hj
      rw [h.cell j hjl, getElem!_pos l j hjl]
      exact hj
    · rw [List.getElem?_eq_none (by omega)] at hj; cases hj
  have hold : (Builtin.firstCells i0.size i (.slice (some ⟨g, 0, none⟩) i cap)).run Ybaf.prog w.drew = .ok ((l.map ptr).take i).toArray w.drew := by
    rw [hzs]
    exact run_firstCells_some w.drew 1 i ⟨g, 0, none⟩ i cap ((l.map ptr).take i) (by rw [List.length_take]; omega) (fun j v hj => by
      rw [Addr.add_lit, Nat.zero_add]
      rw [List.getElem?_take] at hj
      split at hj
      · exact hcs j v hj
      · cases hj)
  have hkk : (n : Int) + 1 - (i : Int) = ((n + 1 - i : Nat) : Int) := by omega
  have hik : i + (n + 1 - i) = n + 1 := by omega
  obtain ⟨G, hG⟩ : ∃ G, G = grownCap w (n + 1) cap 71 := ⟨_, rfl⟩
  have hGn : n + 1 ≤ G := by rw [hG]; exact grownCap_ge w _ _ _
  have hGm : G ≤ maxLen := by rw [hG]; exact grownCap_le_maxLen w (n + 1) cap 71 (by unfold maxLen; omega)
  have hG63 : G ≤ 9223372036854775807 := hGm
  obtain ⟨ROW, hROW⟩ : ∃ ROW : Array Value, ROW = ((l.map ptr).take i).toArray ++ Builtin.zeroCells (Value.pointer none).cells (n + 1 - i) ++ Builtin.zeroCells (Value.pointer none).cells (G - (n + 1)) := ⟨_, rfl⟩
  obtain ⟨W1, hW1⟩ : ∃ W1, W1 = w.drew.alloc (.cells ROW 71) := ⟨_, rfl⟩
  have hrz : ∀ ty, (Builtin.append_ #[63, 3] ty #[.slice (some ⟨g, 0, none⟩) i cap, .int .i64 ((n : Int) + 1 - (i : Int))]).run Ybaf.prog w = .ok (.slice (some ⟨D, 0, none⟩) (n + 1) G) W1 := fun ty => by
    have h := Lib.run_append_grow_zeros w 63 3 ty 71 i0 _ .i64 .i64 Ybaf.underlying63 Ybaf.underlying3 hi0 hz0 (some ⟨g, 0, none⟩) i cap ((l.map ptr).take i) hold (n + 1 - i) (by omega) (by omega) (by omega) (by omega) (by rw [hzb]; omega) (by rw [hzb, hik]; exact growslice_fits (by omega) (by omega))
    rw [hik] at h
    rw [hkk, hW1, hROW, hG, ← hD]
    exact h
  have hRs : ROW.size = G := by
    rw [hROW]
    simp [Builtin.zeroCells, Value.cells, hcl]
    omega
  have hRg : ∀ t, t < i → ROW[t]? = some (ptr l[t]!) := fun t ht => by
    rw [hROW, Array.getElem?_append_left (by simp [Builtin.zeroCells, Value.cells, hcl]; omega), Array.getElem?_append_left (by simp [hcl]; omega)]
    rw [getElem!_pos l t (by omega)]
    simp [ht, List.getElem?_take, List.getElem?_map, List.getElem?_eq_getElem (l := l) (show t < l.length by omega)]
  have hst1 : Stay (fun _ => False) w W1 := by rw [hW1]; exact Stay.of_drew (Stay.alloc _ _ _)
  have hD1 : W1.heap[D]? = some (.cells ROW 71 (0, 0)) := by rw [hW1, ← hD]; exact heap_alloc_new w.drew _
  have hvD : vb ≠ D := by omega
  have hgD : g ≠ D := by omega
  have hvb1 : W1.heap[vb]? = some (.cells #[ptr b] 71 (0, 0)) := hst1.at_ hvb (fun e => e)
  obtain ⟨c2, hc2, hs2, hg2⟩ := heap_setCells_at [ptr b] i W1 ROW hD1
  obtain ⟨W2, hW2⟩ : ∃ W, W = W1.setCells D i [ptr b] := ⟨_, rfl⟩
  rw [← hW2] at hc2
  have hcpA : ∀ ty dc, (Builtin.copy_ #[63, 63] ty #[.slice (some ⟨D, i, none⟩) (n + 1 - i) dc, .slice (some ⟨vb, 0, none⟩) 1 1]).run Ybaf.prog W1 = .ok (goInt [ptr b].length) W2 := fun ty dc => by
    rw [hW2]
    exact run_copy_cells W1 _ _ ty 71 D i (n + 1 - i) dc ⟨vb, 0, none⟩ 1 1 [ptr b] Ybaf.underlying63 Ybaf.size71 (by simp only [Nat.min_def, List.length_singleton]; split <;> omega)
      (fun j v hj => by
        cases j with
        | zero => simp at hj; subst hj; exact cell_in hvb1 (o := 0) rfl
        | succ j => simp at hj)
      (fun j hj => by
        have e : ROW[i + j]? = some ROW[i + j]! := by rw [getElem!_pos ROW _ (by rw [hRs]; simp at hj; omega)]; exact Array.getElem?_eq_getElem _
        rw [cell_in hD1 e]; rfl)
      (fun j hj => free_in hD1) (by simp [Value.oneCell'])
  have hst2 : Stay (fun x => x = D) w W2 := by rw [hW2]; exact (hst1.mono (fun _ _ e => e.elim)).trans (Stay.setCells (S := fun x => x = D) rfl _ _ _)
  have hat2 : W2.heap[g]? = some (.cells cur 71 (0, 0)) := hst2.at_ h.at_ hgD
  obtain ⟨c3, hc3, hs3, hg3⟩ := heap_setCells_at ((l.map ptr).drop i) (i + 1) W2.drew c2 hc2
  obtain ⟨W3, hW3⟩ : ∃ W, W = W2.drew.setCells D (i + 1) ((l.map ptr).drop i) := ⟨_, rfl⟩
  rw [← hW3] at hc3
  have hcpB : ∀ ty dc sc, (Builtin.copy_ #[63, 63] ty #[.slice (some ⟨D, i + 1, none⟩) (n - i) dc, .slice (some ⟨g, i, none⟩) (n - i) sc]).run Ybaf.prog W2.drew = .ok (goInt ((l.map ptr).drop i).length) W3 := fun ty dc sc => by
    rw [hW3]
    exact run_copy_cells W2.drew _ _ ty 71 D (i + 1) (n - i) dc ⟨g, i, none⟩ (n - i) sc ((l.map ptr).drop i) Ybaf.underlying63 Ybaf.size71 (by rw [hdl]; simp only [Nat.min_def]; split <;> omega)
      (fun j v hj => by
        rw [Addr.add_lit]
        rw [List.getElem?_drop, List.getElem?_map] at hj
        by_cases hjl : i + j < l.length
        · rw [List.getElem?_eq_getElem hjl] at hj
          have := cell_in hat2 (h.get (i + j) hjl)
          rw [getElem!_pos l _ hjl] at this
          show W2.cell? _ = _
          rw [this]; exact hj
        · rw [List.getElem?_eq_none (by omega)] at hj; cases hj)
      (fun j hj => by
        show (W2.cell? _).isSome = true
        have e : c2[i + 1 + j]? = some c2[i + 1 + j]! := by rw [getElem!_pos c2 _ (by rw [hs2, hRs]; omega)]; exact Array.getElem?_eq_getElem _
        rw [cell_in hc2 e]; rfl)
      (fun j hj => by show W2.frozen? _ = _; exact free_in hc2) (fun v hv => by
        have := List.mem_of_mem_drop hv
        rw [List.mem_map] at this
        obtain ⟨x, _, rfl⟩ := this
        rfl)
  have hfin : ∃ v', (Ending.returned (.slice (some ⟨D, 0, none⟩) (n + 1) G)) = .returned v' ∧ Row B v' (l.take i ++ b :: l.drop i) W3 ∧ Stay (fun _ => False) w W3 ∧ v'.ownBlock = some w.heap.size := by
    have hlen := len_ins l i b (by omega)
    refine ⟨_, rfl, ?_, ?_, by rw [hD]; rfl⟩
    · have hra : RowAt B D G c3 (l.take i ++ b :: l.drop i) W3 := by
        refine ⟨by omega, hc3, by rw [hlen]; omega, hGm, by rw [hs3, hs2, hRs], fun t ht => ?_⟩
        rw [hlen] at ht
        rw [get_ins l i b t (by omega) ht, hg3 t, hg2 t, hdl, hs2, hRs]
        by_cases h1 : t < i
        · rw [if_neg (by omega), if_neg (by simp; omega), if_pos h1]
          exact hRg t h1
        · by_cases h2 : t = i
          · subst h2
            rw [if_neg (by omega), if_pos ⟨Nat.le_refl _, by simp, by omega⟩, if_neg h1, if_pos rfl]
            simp
          · rw [if_pos ⟨by omega, by omega, by omega⟩, if_neg h1, if_neg h2, List.getElem?_drop, List.getElem?_map, show i + (t - (i + 1)) = t - 1 by omega, List.getElem?_eq_getElem (by omega), getElem!_pos l (t - 1) (by omega)]
            rfl
      have := hra.row
      rw [hlen, hnn] at this
      exact this
    · have hs : Stay (fun x => x = D) w W3 := by rw [hW3]; exact hst2.trans (Stay.of_drew (Stay.setCells (S := fun x => x = D) rfl _ _ _))
      exact hs.mono (fun x hx e => by omega)
  replace hfin : Hid _ := hfin
  replace hrz : Hid _ := hrz
  replace hcpA : Hid _ := hcpA
  replace hcpB : Hid _ := hcpB
  rw [hnn]
  rw [hnn] at hn hi hroom hle
  have hcn : cap = n := by omega
  clear hg2 hg3 hs2 hs3 hc2 hc3 hst1 hst2 hvb1 hat2 hD1 hRs hRg hcs hcl hdl hold hkk hik hROW hW1 hW2 hW3 h hvb hG hi0 hz0 hzs hzb hGm
  subst hcn
  have hz2 : ¬ ((i : Int) = (cap : Int)) := by omega
  have hw1 : IntKind.i64.wrap ((i : Int) + 1) = (i : Int) + 1 := by rw [IntKind.wrap_i64]; omega
  have hb1 : (0 : Int) ≤ (i : Int) + 1 := by omega
  have hin : i ≤ cap := by omega
  have htn : ((i : Int) + 1).toNat = i + 1 := by omega
  have hb3 : (i : Int) ≤ (cap : Int) + 1 := by omega
  have hb4 : ¬ (cap = i) := by omega
  have hGi : ¬ (G = i) := by omega
  have hGim : ¬ (G = i + 1) := by omega
  have hrz1 := hrz.out 63
  have hA := hcpA.out 3 (G - i)
  have hBB := hcpB.out 3 (G - (i + 1)) (cap - i)
  go_enter Ybaf.func118, Ybaf.ntmps118
  go_wp2_with (first
    | (at_builtin; refine Lib.wpList_append_run _ rfl _ _ _ _ rfl _ _ rfl rfl _ _ (hrz.out _) ?_)
    | (at_builtin; refine wpList_copy_runI _ rfl _ _ 63 63 rfl _ _ rfl rfl hA ?_))
  go_region
  go_wp2
  go_ret
  exact hfin.out
end Go.Proofs.YbulkcoecFmt
