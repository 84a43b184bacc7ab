import Derived.Test.YbulkcoguDoorLay
import Derived.Test.YbulkcoguDoorUnplace
namespace Go.Proofs.YbulkcoguDoor
open Go.RowKit Go.Deep
set_option linter.unusedVariables false
set_option linter.unusedSimpArgs false

theorem row_form49 {w : World} {base n : Nat} {v : Value} {xs : List Value} (h : w.ownsRow base 49 1 v n xs) (hv : v ≠ .slice none 0 0) : ∃ g cap cur, v = .slice (some ⟨g, 0, none⟩) n cap ∧ base ≤ g ∧ w.heap[g]? = some (.cells cur 49 (0, 0)) ∧ n ≤ cap ∧ cur.toList.take n = xs := by
  rcases h.2 with ⟨h1, _⟩ | ⟨g, cap, cur, h1, h2, h3, h4, h5, h6, h7⟩
  · exact absurd h1 hv
  · exact ⟨g, cap, cur, h1, h2, h3, h4, by simpa using h7⟩

/-- Of what build left only the closure's block has turned, to kk. -/
structure Ext (wb w' : World) (K : Nat) (kk : Array Value) : Prop where
  os : w'.os = wb.os
  tape : w'.tape = wb.tape
  output : w'.output = wb.output
  size : wb.heap.size ≤ w'.heap.size
  old : ∀ b, b < wb.heap.size → b ≠ K → w'.heap[b]? = wb.heap[b]?
  at_ : w'.heap[K]? = some (.cells kk 42 (0, 0))
  lt : K < wb.heap.size

theorem Ext.below {wb w' w'' : World} {K : Nat} {kk : Array Value} (h : Ext wb w' K kk) (hb : Below w'.heap.size w' w'') : Ext wb w'' K kk :=
  ⟨hb.os.trans h.os, hb.tape.trans h.tape, hb.output.trans h.output, Nat.le_trans h.size hb.size, fun b h1 h2 => (hb.block b (Nat.lt_of_lt_of_le h1 h.size)).trans (h.old b h1 h2), (hb.block K (Nat.lt_of_lt_of_le h.lt h.size)).trans h.at_, h.lt⟩

theorem Ext.set {wb w' : World} {K : Nat} {kk : Array Value} (h : Ext wb w' K kk) (o : Nat) (v : Value) : Ext wb (w'.setCell ⟨K, o, none⟩ v) K (kk.setIfInBounds o v) :=
  ⟨h.os, h.tape, h.output, by rw [World.size_setCell]; exact h.size, fun b h1 h2 => (Below.heap_setCell _ _ _ _ h2).trans (h.old b h1 h2), heap_setCell_same w' K o kk 42 v h.at_, h.lt⟩

theorem Ext.below0 {w wb w' : World} {K : Nat} {kk : Array Value} (h : Ext wb w' K kk) (hb : Below w.heap.size w wb) (hK : w.heap.size ≤ K) : Below w.heap.size w w' :=
  ⟨h.os.trans hb.os, h.tape.trans hb.tape, h.output.trans hb.output, Nat.le_trans hb.size h.size, fun k hk => (h.old k (Nat.lt_of_lt_of_le hk hb.size) (by omega)).trans (hb.block k hk)⟩

set_option maxHeartbeats 1000000 in
theorem replay_long (mr sr : Int) (a3 a4 a5 a6 : Option Addr) (l3 l4 l5 l6 c3 c4 c5 c6 : Nat) (w : World) (h : 1024 < l6) :
    Calls Ybad.prog 4 #[.int .u8 mr, .int .u8 sr, .slice a3 l3 c3, .slice a4 l4 c4, .slice a5 l5 c5, .slice a6 l6 c6] w fun e w' => e = .returned (.bool true) ∧ Below w.heap.size w w' := by
  have hd : decide ((l6 : Int) > 1024) = true := by simp; omega
  go_enter Ybad.func4, Ybad.ntmps4
  go_wp2
  go_ret
  exact ⟨rfl, Below.refl _ _⟩

set_option maxRecDepth 100000 in
set_option maxHeartbeats 4000000 in
theorem replay_some (mr sr : Nat) (hmr : mr < 256) (hsr : sr < 256) (rm ad : List Nat) (wa : List Int) (raw : List Nat) (a3 a4 a5 a6 : Option Addr) (c3 c4 c5 c6 : Nat) (w : World) (h3 : AtB8 w a3 rm) (h4 : AtU64 w a4 ad) (h5 : AtI8 w a5 wa) (h6 : AtB8 w a6 raw) (hl : raw.length ≤ 1024) (hc6 : raw.length ≤ c6) (htab : TabAt 0 Lib.deBruijn64tab w) (h0 : 0 < w.heap.size) :
    Calls Ybad.prog 4 #[.int .u8 mr, .int .u8 sr, .slice a3 rm.length c3, .slice a4 ad.length c4, .slice a5 wa.length c5, .slice a6 raw.length c6] w fun e w' => e = .returned (.bool true) ∧ Below w.heap.size w w' := by
  obtain ⟨m, hm⟩ : ∃ m, 1 + mr % 6 = m := ⟨_, rfl⟩
  obtain ⟨s, hs⟩ : ∃ s, sr % 4 = s := ⟨_, rfl⟩
  have hm1 : 1 ≤ m := by omega
  have hm6 : m ≤ 6 := by omega
  have hs3 : s ≤ 3 := by omega
  have q1 : (mr : Int).tmod 6 = ((mr % 6 : Nat) : Int) := by rw [Int.tmod_eq_emod_of_nonneg (by omega)]; rfl
  have q2 : (sr : Int).tmod 4 = (s : Int) := by rw [Int.tmod_eq_emod_of_nonneg (by omega), ← hs]; rfl
  have q3 : (1 : Int) + ((mr % 6 : Nat) : Int) = (m : Int) := by omega
  obtain ⟨m0, hm0⟩ : ∃ x, mr % 6 = x := ⟨_, rfl⟩
  rw [hm0] at q1 q3
  have hm05 : m0 ≤ 5 := by omega
  have q4 : IntKind.u8.wrap (m0 : Int) = m0 := by rw [IntKind.wrap_u8]; omega
  have q5 : IntKind.u8.wrap (s : Int) = s := by rw [IntKind.wrap_u8]; omega
  have HBD : Hid (Calls Ybad.prog 5 #[.int .i64 m, .int .i64 s, .slice a3 rm.length c3, .slice a4 ad.length c4, .slice a5 wa.length c5] w fun e w' => ∃ K : Nat, e = .returned (.pointer (some ⟨K, 0, none⟩)) ∧ Built m s rm ad wa w w' K) := build_any m s hm1 hm6 hs3 rm ad wa a3 a4 a5 c3 c4 c5 w h3 h4 h5
  have H3 : Hid (AtB8 w a3 rm) := h3
  have H4 : Hid (AtU64 w a4 ad) := h4
  have H5 : Hid (AtI8 w a5 wa) := h5
  have H6 : Hid (AtB8 w a6 raw) := h6
  have HT : Hid (TabAt 0 Lib.deBruijn64tab w) := htab
  have HL6 : Hid (raw.length ≤ 1024) := hl
  obtain ⟨l3, hl3⟩ : ∃ l, rm.length = l := ⟨_, rfl⟩
  obtain ⟨l4, hl4⟩ : ∃ l, ad.length = l := ⟨_, rfl⟩
  obtain ⟨l5, hl5⟩ : ∃ l, wa.length = l := ⟨_, rfl⟩
  obtain ⟨l6, hl6⟩ : ∃ l, raw.length = l := ⟨_, rfl⟩
  have HL3 : Hid (rm.length = l3 ∧ ad.length = l4 ∧ wa.length = l5 ∧ raw.length = l6) := ⟨hl3, hl4, hl5, hl6⟩
  rw [hl3, hl4, hl5] at HBD
  rw [hl6] at hl hc6
  rw [hl3, hl4, hl5, hl6]
  have hdl : decide ((l6 : Int) > 1024) = false := by simp; omega
  clear h3 h4 h5 h6 htab hm hs hm0 hl3 hl4 hl5 hl6
  go_enter Ybad.func4, Ybad.ntmps4
  go_upto_region 6 with (go_at_call 5; refine HBD.out.mono ?_; rintro _ wb ⟨K, rfl, hBt⟩; have HBT : Hid (Built m s rm ad wa w wb K) := hBt; clear hBt)
  obtain ⟨B, n, F, bG, S, bO, rvs, col, v16, v38, v39, eB, en, eF, o1, o2, o3, o4, o5, o6, o7, hRS, hG, hS, hO, hKb, hrb⟩ := HBT.out.all
  have hn9 : n ≤ 9 := by omega
  have hE0 : Ext wb wb K _ := ⟨rfl, rfl, rfl, Nat.le_refl _, fun _ _ _ => rfl, hKb, o7⟩
  have k4 : wb.cell? ⟨K, 4, none⟩ = some (.slice (some ⟨B, 0, none⟩) (2 * n + 1) (2 * n + 1)) := cell_in hKb rfl
  have k18 : wb.cell? ⟨K, 18, none⟩ = some (.slice none 0 0) := cell_in hKb rfl
  have f18 : wb.frozen? ⟨K, 18, none⟩ = false := free_in hKb
  have hbl : ∀ j, j < 2 * n + 1 → wb.cell? ⟨B, j, none⟩ = some (fBitsF ad F n j) := fun j hj => hRS.b.cell hj
  have HC10 : Hid (Calls Ybad.prog 10 #[.slice (some ⟨B, 0, none⟩) (2 * n + 1) (2 * n + 1)] wb fun e w' => ∃ v, e = .returned v ∧ w'.ownsRow wb.heap.size 49 1 v (2 * n + 1) ((List.range (2 * n + 1)).map (fBitsF ad F n)) ∧ v ≠ .slice none 0 0 ∧ Below wb.heap.size wb w') :=
    clone49_any B (2 * n + 1) (2 * n + 1) _ (by simp) (by omega) (by intro u hu; obtain ⟨x, _, rfl⟩ := List.mem_map.1 hu; unfold fBitsF updV fBits; split <;> rfl) wb hRS.b.lt (fun j u hu => by
      rw [List.getElem?_map] at hu
      by_cases hj : j < 2 * n + 1
      · rw [List.getElem?_range hj] at hu
        simp only [Option.map_some, Option.some.injEq] at hu
        rw [← hu]; exact hbl j hj
      · rw [List.getElem?_eq_none (by simpa using hj)] at hu
        cases hu)
  have HE0 : Hid _ := hE0
  have HRS : Hid _ := hRS
  have HEN : Hid (n = m + s ∧ F = 2 ^ n - 1 ∧ B = w.heap.size ∧ B + 4 ≤ bG ∧ bG < S ∧ S < K ∧ bO < K) := ⟨en, eF, eB, o1, o2, o5, o6⟩
  obtain ⟨M, hM⟩ : ∃ M, 2 * n + 1 = M := ⟨_, rfl⟩
  have HM : Hid (2 * n + 1 = M) := hM
  rw [hM] at k4 HC10
  clear hbl hE0 hRS hG hS hO hKb hrb en eF eB hM
  go_upto_region 7 with (go_at_call 10; refine HC10.out.mono ?_; rintro _ wc1 ⟨v1, rfl, hown1, hv1, hB1⟩; obtain ⟨gQ, cq, curQ, rfl, hq1, hq2, hq3, hq4⟩ := row_form49 hown1 hv1; have c18 := (hB1.cell (p := ⟨K, 18, none⟩) o7).trans k18; have g18 := (hB1.frozen (p := ⟨K, 18, none⟩) o7).trans f18; have HB1 : Hid _ := hB1; have HQ : Hid (wb.heap.size ≤ gQ ∧ wc1.heap[gQ]? = some (.cells curQ 49 (0, 0)) ∧ M ≤ cq ∧ curQ.toList.take M = (List.range M).map (fBitsF ad F n)) := ⟨hq1, hq2, hq3, hq4⟩; clear hown1 hv1 hB1 hq1 hq2 hq3 hq4)
  have hE1 := (HE0.out.below HB1.out).set 18 (.slice (some ⟨gQ, 0, none⟩) M cq)
  obtain ⟨wc2, hwc2⟩ : ∃ x, x = wc1.setCell ⟨K, 18, none⟩ (.slice (some ⟨gQ, 0, none⟩) M cq) := ⟨_, rfl⟩
  rw [← hwc2] at hE1 ⊢
  have hQ2 : wc2.heap[gQ]? = some (.cells curQ 49 (0, 0)) := by rw [hwc2]; exact (Below.heap_setCell _ _ _ _ (by have := HQ.out.1; show gQ ≠ K; omega)).trans HQ.out.2.1
  have k9 : wc2.cell? ⟨K, 9, none⟩ = some (.slice (some ⟨B + 1, 0, none⟩) n n) := cell_in hE1.at_ rfl
  have k19 : wc2.cell? ⟨K, 19, none⟩ = some (.slice none 0 0) := cell_in hE1.at_ rfl
  have f19 : wc2.frozen? ⟨K, 19, none⟩ = false := free_in hE1.at_
  have hlW : B + 1 < wb.heap.size := HRS.out.wt.lt
  have hBW : Blk wc2 (B + 1) 3 n (fWait wa n) := HRS.out.wt.same (hE1.old _ hlW (by have := HEN.out; omega))
  have HC11 : Hid (Calls Ybad.prog 11 #[.slice (some ⟨B + 1, 0, none⟩) n n] wc2 fun e w' => ∃ v, e = .returned v ∧ w'.ownsRow wc2.heap.size 3 1 v n ((List.range n).map (fWait wa n)) ∧ v ≠ .slice none 0 0 ∧ Below wc2.heap.size wc2 w') :=
    clone3_any (B + 1) n n _ (by simp) (by omega) (by intro u hu; obtain ⟨x, _, rfl⟩ := List.mem_map.1 hu; rfl) wc2 hBW.lt (fun j u hu => by
      rw [List.getElem?_map] at hu
      by_cases hj : j < n
      · rw [List.getElem?_range hj] at hu
        simp only [Option.map_some, Option.some.injEq] at hu
        rw [← hu]; exact hBW.cell hj
      · rw [List.getElem?_eq_none (by simpa using hj)] at hu
        cases hu)
  have HE1 : Hid _ := hE1
  have HQ2 : Hid (wc2.heap[gQ]? = some (.cells curQ 49 (0, 0))) := hQ2
  have lK2 : K < wc2.heap.size := Nat.lt_of_lt_of_le o7 hE1.size
  clear hE1 hQ2 hwc2 hBW hlW k4 k18 f18 c18 g18
  go_upto_region 8 with (go_at_call 11; refine HC11.out.mono ?_; rintro _ wc3 ⟨v2, rfl, hown2, hv2, hB2⟩; obtain ⟨gZ, cz, curZ, rfl, hq1, hq2, hq3, hq4⟩ := row_form hown2 hv2; have c19 := (hB2.cell (p := ⟨K, 19, none⟩) lK2).trans k19; have g19 := (hB2.frozen (p := ⟨K, 19, none⟩) lK2).trans f19; have HB2 : Hid _ := hB2; have HZ : Hid (wc2.heap.size ≤ gZ ∧ wc3.heap[gZ]? = some (.cells curZ 3 (0, 0)) ∧ n ≤ cz ∧ curZ.toList.take n = (List.range n).map (fWait wa n)) := ⟨hq1, hq2, hq3, hq4⟩; clear hown2 hv2 hB2 hq1 hq2 hq3 hq4)
  have hE2 := (HE1.out.below HB2.out).set 19 (.slice (some ⟨gZ, 0, none⟩) n cz)
  obtain ⟨wc4, hwc4⟩ : ∃ x, x = wc3.setCell ⟨K, 19, none⟩ (.slice (some ⟨gZ, 0, none⟩) n cz) := ⟨_, rfl⟩
  rw [← hwc4] at hE2 ⊢
  have hZ4 : wc4.heap[gZ]? = some (.cells curZ 3 (0, 0)) := by rw [hwc4]; exact (Below.heap_setCell _ _ _ _ (by have := HZ.out.1; show gZ ≠ K; omega)).trans HZ.out.2.1
  have hQ4 : wc4.heap[gQ]? = some (.cells curQ 49 (0, 0)) := by
    rw [hwc4]
    exact (Below.heap_setCell _ _ _ _ (by have := HQ.out.1; show gQ ≠ K; omega)).trans ((HB2.out.block gQ (Array.getElem?_eq_some_iff.1 HQ2.out).1).trans HQ2.out)
  have hbel4 : Below w.heap.size w wc4 := hE2.below0 HRS.out.bel (by have := HEN.out; omega)
  have hraw4 : AtB8 wc4 a6 raw := fun j hj => by
    obtain ⟨b, o, h1, h2, h3, h4⟩ := H6.out j hj
    exact ⟨b, o, h1, Nat.lt_of_lt_of_le h2 hbel4.size, h3, Below.cells hbel4 h2 h4⟩
  have HOR : Hid (Calls Ybad.prog 6 #[.int .i64 m, .slice a6 l6 c6] wc4 fun e w' => ∃ (ord : List Nat) (g cap : Nat), e = .returned (.slice (some ⟨g, 0, none⟩) ord.length cap) ∧ ord ≠ [] ∧ ord.Nodup ∧ (∀ v ∈ ord, v < m) ∧ ord.length ≤ 6 ∧ w'.ownsRow wc4.heap.size 3 1 (.slice (some ⟨g, 0, none⟩) ord.length cap) ord.length (ord.map encI) ∧ Below wc4.heap.size wc4 w') := by
    have := order_any m hm1 hm6 a6 c6 raw HL6.out (by rw [HL3.out.2.2.2]; exact hc6) wc4 hraw4
    rw [HL3.out.2.2.2] at this
    exact this
  have HE2 : Hid _ := hE2
  have HZ4 : Hid (wc4.heap[gZ]? = some (.cells curZ 3 (0, 0)) ∧ wc4.heap[gQ]? = some (.cells curQ 49 (0, 0))) := ⟨hZ4, hQ4⟩
  clear hE2 hZ4 hQ4 hbel4 hraw4 hwc4 k9 k19 f19 c19 g19
  go_upto_region 9 with (go_at_call 6; refine HOR.out.mono ?_; rintro _ w1 ⟨ord, g, cap, rfl, u1, u2, u3, u4, u5, u6⟩; have HO : Hid (ord ≠ [] ∧ ord.Nodup ∧ (∀ v ∈ ord, v < m) ∧ ord.length ≤ 6 ∧ w1.ownsRow wc4.heap.size 3 1 (.slice (some ⟨g, 0, none⟩) ord.length cap) ord.length (ord.map encI) ∧ Below wc4.heap.size wc4 w1) := ⟨u1, u2, u3, u4, u5, u6⟩; clear u1 u2 u3 u4 u5 u6)
  obtain ⟨u1, u2, u3, u4, u5, u6⟩ := HO.out
  have hE3 := HE2.out.below u6
  have hbel1 : Below w.heap.size w w1 := hE3.below0 HRS.out.bel (by have := HEN.out; omega)
  have htab1 : TabAt 0 Lib.deBruijn64tab w1 := fun j hj => (hbel1.cell (p := ⟨0, j, none⟩) h0).trans (HT.out j hj)
  obtain ⟨L, G, e1, e2, e3, e4, e5, e6, e7, e8, e9, hTold, hcnt, hBB, hWW, hSt, hspec⟩ := HBT.out.lay hm1 hm6 hs3 (.slice (some ⟨gQ, 0, none⟩) M cq) (.slice (some ⟨gZ, 0, none⟩) n cz) h0 hE3.size hE3.old (fun kk' hk' => by
    have h9 := HE0.out.at_.symm.trans hk'
    simp only [Option.some.injEq, Obj.cells.injEq, and_true] at h9
    rw [← h9]
    exact hE3.at_) htab1
  have hLn : L.n = n := by rw [HEN.out.1]; unfold Lay.n; rw [e3, e4]
  have hQ1 := (u6.block gQ (Array.getElem?_eq_some_iff.1 HZ4.out.2).1).trans HZ4.out.2
  have hZ1 := (u6.block gZ (Array.getElem?_eq_some_iff.1 HZ4.out.1).1).trans HZ4.out.1
  have hR : Root L (waitv wa) := by
    refine ⟨gQ, cq, gZ, cz, ?_, ?_, ?_, ?_, ?_, ?_, fun o ho => ?_, ?_, fun u hu => ?_, ?_, ?_⟩
    · rw [e5, hLn, HM.out]
    · rw [e6, hLn]
    · rw [e1]; exact (Array.getElem?_eq_some_iff.1 hQ1).1
    · intro hh; have h8 := (hspec gQ hh).2; have h7 := HQ.out.1; omega
    · rw [e1]; exact (Array.getElem?_eq_some_iff.1 hZ1).1
    · intro hh; have h8 := (hspec gZ hh).2; have h7 := HZ.out.1; have h6 := HE1.out.size; omega
    · rw [hLn] at ho
      have hoM : o < M := by have := HM.out; omega
      have h8 : curQ[o]? = some (fBitsF ad F n o) := by
        have h7 := congrArg (fun l : List Value => l[o]?) HQ.out.2.2.2
        simp only [List.getElem?_take, if_pos hoM, List.getElem?_map, List.getElem?_range hoM, Option.map_some] at h7
        rw [← Array.getElem?_toList]; exact h7
      refine ⟨(if n ≤ o ∧ o < n + n then addv ad F (o - n) else 0), ?_, ?_⟩
      · rw [e1, cell_in hQ1 h8]
        unfold fBitsF updV fBits
        rw [if_neg (by omega)]
      · rw [e1, hBB.cell (j := o) (by rw [hLn]; omega), hLn, ← HEN.out.2.1]
        unfold fBitsF updV fBits
        rw [if_neg (by omega)]
    · rw [hLn]
      have hoM : 2 * n < M := by have := HM.out; omega
      have h8 : curQ[2 * n]? = some (fBitsF ad F n (2 * n)) := by
        have h7 := congrArg (fun l : List Value => l[2 * n]?) HQ.out.2.2.2
        simp only [List.getElem?_take, if_pos hoM, List.getElem?_map, List.getElem?_range hoM, Option.map_some] at h7
        rw [← Array.getElem?_toList]; exact h7
      rw [e1, cell_in hQ1 h8, ← HEN.out.2.1]
      unfold fBitsF updV
      rw [if_pos rfl]
    · rw [hLn] at hu
      have h8 : curZ[u]? = some (fWait wa n u) := by
        have h7 := congrArg (fun l : List Value => l[u]?) HZ.out.2.2.2
        simp only [List.getElem?_take, if_pos hu, List.getElem?_map, List.getElem?_range hu, Option.map_some] at h7
        rw [← Array.getElem?_toList]; exact h7
      rw [e1, cell_in hZ1 h8]
      unfold fWait
      rw [if_pos hu]
    · rw [e1]
      obtain ⟨cur, q1', q2', _⟩ := hBB
      simp [kindOf, q1', q2']
    · rw [e1]
      obtain ⟨cur, q1', q2', _⟩ := hWW
      simp [kindOf, q1', q2']
  have hgle : wc4.heap.size ≤ g := (u5.lt g rfl).1
  have hgl1 : g < w1.heap.size := (u5.lt g rfl).2
  have hgns : ¬ L.Spec g := fun hh => by have h8 := (hspec g hh).2; have h7 := HE2.out.size; omega
  have hcord : ∀ W, Fix L W → ∀ j, j < ord.length → W.cell? ⟨g, j, none⟩ = some (.int .i64 (ord.getD j 0 : Nat)) := fun W hW j hj => by
    rw [hW.plain G (by rw [e1]; exact hgl1) hgns, e1]
    have hc := u5.cells (g := g) rfl j (encI (ord.getD j 0)) (by simp [hj])
    rw [Addr.add_lit, Nat.zero_add] at hc
    exact hc
  have hcapo : ord.length ≤ cap := by
    rcases u5.2 with ⟨hh, _⟩ | ⟨g', cap', cur, hh, _, _, hh4, _⟩
    · cases hh
    · cases hh; exact hh4
  have hInv0 : Inv L.add L.rd (waitv wa) L.m L.s [] (startSt (2 ^ L.n - 1) (waitv wa) (fun g => (L.cnt g : Int))).ps :=
    Inv.start (by have := G.m6; have := G.s3; omega) rfl (fun u => rfl) hTold.add0 (fun g hg => by show (L.cnt g : Int) = _; rw [hcnt g hg])
  have hwb : ∀ u, u < L.n → -128 ≤ waitv wa u ∧ waitv wa u ≤ 127 := fun u hu => by
    unfold waitv
    split
    · rename_i h
      obtain ⟨_, _, _, _, h2, _⟩ := H5.out u h
      exact h2
    · omega
  obtain ⟨k, hk⟩ : ∃ k, ord.length = k + 1 := ⟨ord.length - 1, by have : ord.length ≠ 0 := fun e => u1 (List.eq_nil_of_length_eq_zero e); omega⟩
  subst e1 e2 e3 e4
  have HG : Hid (Good L) := G
  have HR : Hid (Root L (waitv wa)) := hR
  have HTO : Hid (Told L rm ad wa (waitv wa)) := hTold
  have HCN : Hid (∀ g, g < L.s → L.cnt g = Cn L.rd L.m g) := hcnt
  have HST : Hid (Sta L (startSt (2 ^ L.n - 1) (waitv wa) (fun g => (L.cnt g : Int))) L.w1) := hSt
  have HIN : Hid (Inv L.add L.rd (waitv wa) L.m L.s [] (startSt (2 ^ L.n - 1) (waitv wa) (fun g => (L.cnt g : Int))).ps) := hInv0
  have HWB : Hid (∀ u, u < L.n → -128 ≤ waitv wa u ∧ waitv wa u ≤ 127) := hwb
  have HCO : Hid (∀ W, Fix L W → ∀ j, j < ord.length → W.cell? ⟨g, j, none⟩ = some (.int .i64 (ord.getD j 0 : Nat))) := hcord
  have HGN : Hid (g < L.w1.heap.size ∧ ord.length ≤ cap ∧ L.bB = w.heap.size ∧ L.n = n) := ⟨hgl1, hcapo, e7, hLn⟩
  have HOK : Hid (ord.Nodup ∧ (∀ v ∈ ord, v < L.m) ∧ ord.length ≤ 6 ∧ ord.length = k + 1) := ⟨u2, u3, u4, hk⟩
  have HBL1 : Hid (Below w.heap.size w L.w1) := hbel1
  obtain ⟨N1, hN1⟩ : ∃ N1, ord.length = N1 := ⟨_, rfl⟩
  have HN1 : Hid (ord.length = N1) := hN1
  obtain ⟨last, hlast⟩ : ∃ x, ord.getD k 0 = x := ⟨_, rfl⟩
  have clast : L.w1.cell? ⟨g, k, none⟩ = some (.int .i64 last) := by rw [hcord _ (Fix.refl L) k (by omega), hlast]
  have hkN : k + 1 = N1 := by omega
  have hkI : (N1 : Int) - 1 = (k : Int) := by omega
  have hN6 : N1 ≤ 6 := by omega
  have hkc : k ≤ cap := by omega
  rw [hN1]
  clear HO u1 u2 u3 u4 u5 u6 hE3 hbel1 htab1 e5 e6 e7 e8 e9 hTold hcnt hBB hWW hSt hspec hLn hQ1 hZ1 hR hgle hgl1 hgns hcord hcapo hInv0 hwb hk hN1 hlast G HBD HBT HC10 HC11 HOR HE0 HE1 HE2 HZ4 HB1 HB2 HQ HQ2 HZ HRS
  go_wp2
  go_loopw [69] (fun q wr => ∃ (j : Nat) (st' : St), j ≤ N1 ∧ q = .int .i64 j ∧ Sta L st' wr ∧ Inv L.add L.rd (waitv wa) L.m L.s (ord.take j) st'.ps ∧ st'.pl = ord.take j ∧ st'.rc = false ∧ st'.mks = [] ∧ st'.ems = [] ∧ st'.pc = 0 ∧ st'.sv = 0 ∧ st'.tr = [] ∧ st'.taken ≤ 1000 * j) (fun q _ => N1 - (intOf q).toNat)
  case atStart => exact ⟨0, _, Nat.zero_le _, rfl, HST.out, HIN.out, rfl, rfl, rfl, rfl, rfl, rfl, rfl, Nat.zero_le _⟩
  case round =>
    obtain ⟨j, st', hj, rfl, hS', hI', b1, b2, b3, b4, b5, b6, b7, b8⟩ := hrel
    have G := HG.out
    have hn : L.n ≤ 9 := by have := G.m6; have := G.s3; unfold Lay.n; omega
    by_cases hlt : j < N1
    · have hjl : j < ord.length := by rw [HN1.out]; exact hlt
      have cij := HCO.out wr hS'.core.fix j hjl
      obtain ⟨i, hi⟩ : ∃ i, ord.getD j 0 = i := ⟨_, rfl⟩
      rw [hi] at cij
      have hgi : ord[j] = i := by rw [← hi]; simp [hjl]
      have him : i < L.m := HOK.out.2.1 i (by rw [← hgi]; exact List.getElem_mem hjl)
      have htk' : ord.take (j + 1) = ord.take j ++ [i] := by rw [List.take_succ_eq_append_getElem hjl, hgi]
      have hni : i ∉ ord.take j := fun hin => by
        have hn2 : (ord.take (j + 1)).Nodup := List.Nodup.sublist (List.take_sublist _ _) HOK.out.1
        rw [htk', List.nodup_append] at hn2
        exact hn2.2.2 _ hin _ (by simp) rfl
      have h512 : st'.live < 512 := by
        have h9 : st'.live < 2 ^ (L.m + L.s) := hI'.lt
        exact Nat.lt_of_lt_of_le h9 (Nat.pow_le_pow_right (n := 2) (by omega) hn)
      have hwtb : ∀ u, u < L.n → -900 ≤ st'.wt u ∧ st'.wt u ≤ 900 := fun u hu => by
        have h9 : st'.wt u = Wt L.add (waitv wa) st'.live u := hI'.wt u
        have h8 := HWB.out u hu
        have h7 := sumW_bound (f := fun v => if st'.live.testBit v then 0 else bit (L.add v) u) (fun i => by
          split
          · omega
          · exact bit_01 _ _) 9
        unfold Wt at h9
        omega
      have hlfb : ∀ g, g < L.s → -900 ≤ st'.lf g ∧ st'.lf g ≤ 900 := fun g hg => by
        have h9 : st'.lf g = (Cn L.rd L.m g : Int) - (Pn L.rd L.m (ord.take j) g : Int) := hI'.lf g hg
        have h8 : Cn L.rd L.m g ≤ L.m := cnt_bound _ _
        have h7 : Pn L.rd L.m (ord.take j) g ≤ L.m := cnt_bound _ _
        have := G.m6
        omega
      have HPLC : Hid (Calls Ybad.prog 7 #[.pointer (some ⟨L.K, 0, none⟩), .int .i64 i] wr fun e w' => e = .returned (.bool true) ∧ ∃ st'', Sta L st'' w' ∧ Placing L i (L.rd i).length st' st'') :=
        place_any G hS' (by rw [b7]; simp) h512 (by omega) (by omega) (by omega) hwtb hlfb (by rw [b1]; simp; omega) (by rw [b3]; simp) (by rw [b4]; simp) i him
      have HSS : Hid (Inv L.add L.rd (waitv wa) L.m L.s (ord.take j) st'.ps ∧ st'.pl = ord.take j ∧ st'.rc = false ∧ st'.mks = [] ∧ st'.ems = [] ∧ st'.pc = 0 ∧ st'.sv = 0 ∧ st'.tr = [] ∧ st'.taken ≤ 1000 * j) := ⟨hI', b1, b2, b3, b4, b5, b6, b7, b8⟩
      have HIM : Hid (i ∉ ord.take j ∧ ord.take (j + 1) = ord.take j ++ [i] ∧ i < L.m) := ⟨hni, htk', him⟩
      clear hS' hI' b1 b2 b3 b4 b5 b6 b7 b8 h512 hwtb hlfb hi hni htk' hgi hjl him G
      go_wp2_with (first | (go_at_call 7; refine HPLC.out.mono ?_; rintro _ w8 ⟨rfl, st8, hS8, hP8⟩; have HS8 : Hid (Sta L st8 w8) := hS8; have HP8 : Hid (Placing L i (L.rd i).length st' st8) := hP8; clear hS8 hP8))
      go_roundw
      case rel =>
        obtain ⟨c1, c2, c3, c4, c5, c6, c7, c8, c9⟩ := HSS.out
        have G := HG.out
        have hP := HP8.out
        obtain ⟨d1, d2, d3, d4, d5⟩ := hP.off c3
        have hps : st8.ps = placeP L.add L.rd L.m i st'.ps := by
          have := hP.ps
          rw [List.take_length] at this
          exact this
        have hrl := G.rdle i HIM.out.2.2
        refine ⟨j + 1, st8, by omega, by go_num, HS8.out, ?_, ?_, hP.rc.trans c3, by rw [d1, c4], by rw [d2, c5], by rw [d3, c6], by rw [d4, c7], by rw [d5, c8], by have := hP.tk; omega⟩
        · rw [HIM.out.2.1, hps]
          exact c1.place (by unfold Lay.n at hn; exact hn) HIM.out.2.2 HIM.out.1 (G.rdlt i HIM.out.2.2) (G.rdnd i HIM.out.2.2)
        · rw [hP.pl, c2, HIM.out.2.1]
      case measure => simp [intOf]; omega
    · obtain rfl : j = N1 := by omega
      have hpl : st'.pl = ord := by rw [b1, List.take_of_length_le]; rw [HN1.out]; exact Nat.le_refl _
      have hrp := hS'.rest.rp
      obtain ⟨gp, capp, hvp, _, _⟩ := hrp.form (by rw [hpl, HN1.out]; omega)
      have hcp : k + 1 ≤ capp := by
        rcases hrp.2 with ⟨hh, hh0⟩ | ⟨g', cap', cur, hh, _, _, hh4, _⟩
        · rw [hpl, HN1.out] at hh0; omega
        · rw [hvp] at hh; cases hh; rw [hpl, HN1.out] at hh4; omega
      rw [hpl, HN1.out, ← hkN] at hvp
      have HUN : Hid (Calls Ybad.prog 8 #[.pointer (some ⟨L.K, 0, none⟩), .int .i64 last] wr fun e w' => e = .returned (.tuple #[]) ∧ ∃ st9, Sta L st9 w' ∧ Inv L.add L.rd (waitv wa) L.m L.s (ord.take k) st9.ps ∧ st9.pl = ord.take k ∧ st9.rc = true ∧ st9.mks.length = k ∧ st9.ems.length = k) := by
        have h9 := unplace_replay G HR.out HWB.out HCN.out HTO.out.add0 hS' b2 b7 b3 b4 b5 (by omega) k gp capp hvp hcp (by rw [hpl, HN1.out, hkN]) (by omega) (by rw [hpl]; exact HOK.out.1) (by rw [hpl]; exact HOK.out.2.1) last
        rw [hpl] at h9
        exact h9
      clear hS' hI' b1 b2 b3 b4 b5 b6 b7 b8 hpl hrp hvp hcp
      go_upto_region 17 with (go_at_call 8; refine HUN.out.mono ?_; rintro _ w9 ⟨rfl, st9, s1, s2, s3, s4, s5, s6⟩; have HS9 : Hid (Sta L st9 w9 ∧ Inv L.add L.rd (waitv wa) L.m L.s (ord.take k) st9.ps ∧ st9.pl = ord.take k ∧ st9.rc = true ∧ st9.mks.length = k ∧ st9.ems.length = k) := ⟨s1, s2, s3, s4, s5, s6⟩; clear s1 s2 s3 s4 s5 s6)
      obtain ⟨s1, s2, s3, s4, s5, s6⟩ := HS9.out
      have hb9 : Below w.heap.size w w9 := s1.core.fix.below HBL1.out (by rw [HGN.out.2.2.1]; exact Nat.le_refl _) G
      have k20 := s1.core.kd 20 _ rfl
      have k21 := s1.core.kd 21 _ rfl
      have k38 := s1.core.kd 38 _ rfl
      have k24 := s1.core.kd 24 _ rfl
      have k4 := s1.core.fix.k G (o := 4) rfl
      have hvs := (s1.rest.sv s4).2.1
      obtain ⟨ma, mc, hvm, _, _⟩ := row_at s1.rest.rm rfl
      obtain ⟨ea, ec, hve, _, _⟩ := row_at s1.rest.re rfl
      rw [s4] at k20
      rw [hvm, s5] at k21
      rw [hve, s6] at k38
      rw [hvs] at k24
      obtain ⟨M9, hM9⟩ : ∃ x, 2 * L.n + 1 = x := ⟨_, rfl⟩
      rw [hM9] at k24 k4
      have HCK : Hid (∀ nn, Calls Ybad.prog 9 #[.pointer (some ⟨L.K, 0, none⟩), .int .i64 L.m, .int .i64 L.s, .slice a3 l3 c3, .slice a4 l4 c4, .slice a5 l5 c5, .slice (some ⟨g, 0, none⟩) k cap] (w9.drewN nn) fun e w' => e = .returned (.bool true) ∧ Below w9.heap.size w9 w') := by
        intro nn
        have hb9n : Below w.heap.size w (w9.drewN nn) := below_drewN hb9 nn
        have g3 : AtB8 (w9.drewN nn) a3 rm := fun j hj => by
          obtain ⟨b, o, h1, h2, h3, h4⟩ := H3.out j hj
          exact ⟨b, o, h1, Nat.lt_of_lt_of_le h2 hb9n.size, h3, Below.cells hb9n h2 h4⟩
        have g4 : AtU64 (w9.drewN nn) a4 ad := fun j hj => by
          obtain ⟨b, o, h1, h2, h3, h4⟩ := H4.out j hj
          exact ⟨b, o, h1, Nat.lt_of_lt_of_le h2 hb9n.size, h3, Below.cells hb9n h2 h4⟩
        have g5 : AtI8 (w9.drewN nn) a5 wa := fun j hj => by
          obtain ⟨b, o, h1, h2, h3, h4⟩ := H5.out j hj
          exact ⟨b, o, h1, Nat.lt_of_lt_of_le h2 hb9n.size, h3, Below.cells hb9n h2 h4⟩
        have hlk : (ord.take k).length = k := by rw [List.length_take, HN1.out]; omega
        have g6 : AtI (w9.drewN nn) (some ⟨g, 0, none⟩) st9.pl := fun j hj => by
          rw [s3] at hj ⊢
          have hjk : j < k := by rw [hlk] at hj; exact hj
          refine ⟨g, 0, rfl, ?_⟩
          rw [Nat.zero_add]
          have h9 := HCO.out (w9.drewN nn) (s1.core.fix.drewN nn) j (by rw [HN1.out]; omega)
          have e9 : (ord.take k).getD j 0 = ord.getD j 0 := by simp [List.getD, hjk]
          rw [e9]
          exact h9
        have h9 := check_any G (s1.drewN nn) rm ad wa (waitv wa) HTO.out (by rw [s3]; exact s2) a3 a4 a5 (some ⟨g, 0, none⟩) c3 c4 c5 cap g3 g4 g5 g6 (fun b o e => by
          cases e
          exact Nat.lt_of_lt_of_le HGN.out.1 s1.core.fix.size) (by rw [s3]; exact fun v hv => HOK.out.2.1 v (List.mem_of_mem_take hv)) (by rw [s3, hlk]; omega)
        rw [HL3.out.1, HL3.out.2.1, HL3.out.2.2.1, s3, hlk] at h9
        exact h9.mono (fun e w' hh => ⟨hh.1, ⟨hh.2.os, hh.2.tape, hh.2.output, hh.2.size, hh.2.block⟩⟩)
      have HB9 : Hid (Below w.heap.size w w9) := hb9
      have lK9 : L.K < w9.heap.size := Nat.lt_of_lt_of_le G.Kl s1.core.fix.size
      have hkk : ((k : Int) == (k : Int)) = true := by simp
      have hMM : ((M9 : Int) == (M9 : Int)) = true := by simp
      clear s1 s2 s3 s4 s5 s6 hb9 hvs hvm hve hM9 G HS9 HUN
      go_region_held3 (fun w' => w'.cell? ⟨L.K, 20, none⟩ = some (.bool true) ∧ w'.cell? ⟨L.K, 21, none⟩ = some (.slice ma k mc) ∧ w'.cell? ⟨L.K, 38, none⟩ = some (.slice ea k ec) ∧ w'.cell? ⟨L.K, 24, none⟩ = some (.slice (some ⟨st9.bV, 0, none⟩) M9 M9) ∧ w'.cell? ⟨L.K, 4, none⟩ = some (.slice (some ⟨L.bB, 0, none⟩) M9 M9)) (go_keep)
        (first | (go_at_call 9; refine (HCK.out _).mono ?_; rintro _ w10 ⟨rfl, hB10⟩; have j20 := Below.cells hB10 lK9 k20; have j21 := Below.cells hB10 lK9 k21; have j38 := Below.cells hB10 lK9 k38; have j24 := Below.cells hB10 lK9 k24; have j4 := Below.cells hB10 lK9 k4; have HB10 : Hid (Below w9.heap.size w9 w10) := hB10; clear hB10))
      go_wp2
      go_ret
      exact ⟨rfl, HB9.out.trans (HB10.out.mono HB9.out.size)⟩
end Go.Proofs.YbulkcoguDoor
