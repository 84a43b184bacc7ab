import Derived.Test.YbulkcoguWait
namespace Go.Proofs.Ybulkcogu
open Go.RowKit
set_option linter.unusedVariables false
set_option linter.unusedSimpArgs false

theorem ins_one (w : World) (r : Nat) (k v : Int) (hr : w.heap.size = r) :
    (Instr.mapUpdate 40 (.map (some r)) (.int .i64 k) (.int .i64 v)).run Yba.prog (w.alloc (.map #[] 0)) = .ok () (w.alloc (.map #[⟨.int .i64 k, .int .i64 v, 0⟩] 1)) := by
  subst hr
  have hb : (w.alloc (.map #[] 0)).heap[w.heap.size]? = some (.map #[] 0) := heap_alloc_new w _
  have hk : MapKept.IsKey (.int .i64) (.int .i64 k) := by simp [MapKept.IsKey]
  simp [Instr.mapUpdate, run_underlying Yba.underlying40, MapKept.run_getObj_map hb, MapKept.run_checkKey Yba.underlying3 hk _ 9999,
    MapKept.run_findKey (d := .int .i64) (a := none) Yba.underlying3 (show Instr.findNow (.int .i64) (.int .i64 k) [] 0 = _ by simp [Instr.findNow]), MapKept.run_setObj_map _ hb]
  apply congrArg (fun h => ({ w with heap := h } : World))
  show (w.heap.push _).setIfInBounds w.heap.size _ = w.heap.push _
  apply Array.toList_inj.1
  simp

theorem at_cells {w w' : World} {a : Option Addr} {zs : List Int} (h : At w a zs) (hk : ∀ (p : Addr) (u : Value), w.cell? p = some u → w'.cell? p = some u) :
    ∀ ad, a = some ad → ∀ j u, (zs.map (Value.int .i64))[j]? = some u → w'.cell? (ad.add j) = some u := by
  intro ad had j u hu
  have hj : j < zs.length := by have := (List.getElem?_eq_some_iff.1 hu).1; simpa using this
  obtain ⟨b, o, hb, hc⟩ := h j hj
  rw [hb] at had
  obtain rfl := Option.some.inj had
  rw [Addr.add_lit]
  have e : (zs.map (Value.int .i64))[j]? = some (.int .i64 (zs.getD j 0)) := by simp [List.getD, hj]
  rw [e] at hu
  rw [← hu]
  exact hk _ _ hc

/-- The world at the call of waitOf. -/
abbrev KW (w : World) (g L n1 : Nat) (i v : Int) : World :=
  (((w.alloc (Obj.cells
                    #[Value.pointer none, Value.int IntKind.i64 0, Value.int IntKind.i64 0,
                      Value.int IntKind.i64 4611686018427387904, Value.slice none 0 0, Value.slice none 0 0,
                      Value.slice none 0 0, Value.slice none 0 0, Value.slice none 0 0, Value.slice none 0 0,
                      Value.slice none 0 0, Value.pointer none, Value.pointer none, Value.pointer none,
                      Value.slice none 0 0, Value.slice none 0 0, Value.slice none 0 0, Value.int IntKind.i64 0,
                      Value.slice none 0 0, Value.slice none 0 0,
                      Value.slice (some { block := w.heap.size + 1, off := 0 }) 1 1,
                      Value.slice (some { block := w.heap.size + 1 + 1, off := 0 }) 1 1, Value.int IntKind.i64 0,
                      Value.pointer (some { block := w.heap.size, off := 2 }), Value.slice none 0 0,
                      Value.slice none 0 0, Value.slice none 0 0, Value.int IntKind.i64 0]
                    37)).alloc
      (Obj.cells #[Value.slice (some ⟨g, 0, none⟩) L L] 22)).alloc (Obj.cells #[Value.int IntKind.i64 n1] 3)).alloc
      (Obj.map #[{ key := Value.int IntKind.i64 i, val := Value.int IntKind.i64 v, born := 0 }] 1)

theorem heap4 (w : World) (o1 o2 o3 o4 : Obj) : (∀ k, k < w.heap.size → ((((w.alloc o1).alloc o2).alloc o3).alloc o4).heap[k]? = w.heap[k]?) ∧
    ((((w.alloc o1).alloc o2).alloc o3).alloc o4).heap[w.heap.size]? = some o1 ∧ ((((w.alloc o1).alloc o2).alloc o3).alloc o4).heap[w.heap.size + 1]? = some o2 ∧
    ((((w.alloc o1).alloc o2).alloc o3).alloc o4).heap[w.heap.size + 1 + 1]? = some o3 ∧ ((((w.alloc o1).alloc o2).alloc o3).alloc o4).heap[w.heap.size + 1 + 1 + 1]? = some o4 ∧
    ((((w.alloc o1).alloc o2).alloc o3).alloc o4).heap.size = w.heap.size + 4 := by
  refine ⟨fun k hk => ?_, ?_, ?_, ?_, ?_, by simp⟩
  all_goals
    show ((((w.heap.push _).push _).push _).push _)[_]? = _
    simp only [Array.getElem?_push, Array.size_push]
  · rw [if_neg (by omega), if_neg (by omega), if_neg (by omega), if_neg (by omega)]
  · rw [if_neg (by omega), if_neg (by omega), if_neg (by omega), if_pos trivial]
  · rw [if_neg (by omega), if_neg (by omega), if_pos trivial]
  · rw [if_neg (by omega), if_pos trivial]
  · rw [if_pos trivial]


/-- What the call of waitOf is told of that world. -/
theorem KW_facts (w : World) (g L n1 : Nat) (i v : Int) (hg : g < w.heap.size) (cs : List Int) (hc : ∀ j, j < cs.length → w.cell? ⟨g, j, none⟩ = some (.int .i64 (cs.getD j 0))) :
    (KW w g L n1 i v).cell? ⟨w.heap.size, 2, none⟩ = some (.int .i64 0) ∧ (KW w g L n1 i v).cell? ⟨w.heap.size, 3, none⟩ = some (.int .i64 4611686018427387904) ∧ (KW w g L n1 i v).frozen? ⟨w.heap.size, 2, none⟩ = false ∧
    (KW w g L n1 i v).heap[w.heap.size + 1 + 1 + 1]? = some (.map #[⟨.int .i64 i, .int .i64 v, 0⟩] 1) ∧ (KW w g L n1 i v).cell? ⟨w.heap.size, 20, none⟩ = some (.slice (some ⟨w.heap.size + 1, 0, none⟩) 1 1) ∧
    (KW w g L n1 i v).cell? ⟨w.heap.size, 21, none⟩ = some (.slice (some ⟨w.heap.size + 1 + 1, 0, none⟩) 1 1) ∧ (KW w g L n1 i v).cell? ⟨w.heap.size + 1, 0 + 0, none⟩ = some (.slice (some ⟨g, 0, none⟩) L L) ∧
    (KW w g L n1 i v).cell? ⟨w.heap.size + 1 + 1, 0 + 0, none⟩ = some (.int .i64 n1) ∧ (∀ j, j < cs.length → (KW w g L n1 i v).cell? ⟨g, j, none⟩ = some (.int .i64 (cs.getD j 0))) ∧ Below w.heap.size w (KW w g L n1 i v) ∧ (KW w g L n1 i v).heap.size = w.heap.size + 4 := by
  obtain ⟨hold, hS, hN, hT, hM, hsz⟩ := heap4 w _ _ _ _
  refine ⟨?_, ?_, ?_, hM, ?_, ?_, ?_, ?_, ?_, ⟨rfl, rfl, rfl, by rw [hsz]; omega, hold⟩, hsz⟩
  · exact cell_in hS rfl
  · exact cell_in hS rfl
  · exact free_in hS
  · exact cell_in hS rfl
  · exact cell_in hS rfl
  · exact cell_in hN rfl
  · exact cell_in hT rfl
  · intro j hj
    rw [World.cell?_of_block (w := w) (hold g hg)]
    exact hc j hj

set_option maxHeartbeats 1000000 in
theorem knot_some (i : Int) (a1 a2 : Option Addr) (c1 c2 : Nat) (z1 z2 : List Int) (neg : Bool) (nk : Int) (w : World)
    (hl1 : z1.length ≤ 1024) (hl2 : z2.length ≤ 1024) (hn1 : a1 = none → z1.length = 0 ∧ c1 = 0) (hn2 : a2 = none → z2.length = 0 ∧ c2 = 0)
    (h1 : At w a1 z1) (h2 : At w a2 z2) (hneg : neg = false) :
    Calls Yba.prog 3 #[.int .i64 i, .slice a1 z1.length c1, .slice a2 z2.length c2, .bool neg, .int .u8 nk] w fun e w' => e = .returned (.bool true) ∧ Below w.heap.size w w' := by
  subst hneg
  obtain ⟨i0, hi, hz0, hz1, hz2⟩ := info_parts Yba.info3
  have HI : Hid (Yba.prog.info? 3 = some i0 ∧ i0.zero = some (.int .i64 0) ∧ i0.size = 1 ∧ i0.bytes = 8) := ⟨hi, hz0, hz1, hz2⟩
  clear hi hz0 hz1 hz2
  have hmm := @run_makeMap Yba.prog
  have hins := ins_one
  have H1 : Hid (At w a1 z1) := h1
  have H2 : Hid (At w a2 z2) := h2
  have HN1 : Hid (a1 = none → z1.length = 0 ∧ c1 = 0) := hn1
  have HN2 : Hid (a2 = none → z2.length = 0 ∧ c2 = 0) := hn2
  clear h1 h2 hn1 hn2
  have hd1 : decide (1024 < (z1.length : Int)) = false := by simp; omega
  have hd2 : decide (1024 < (z2.length : Int)) = false := by simp; omega
  go_enter Yba.func3, Yba.ntmps3
  go_wp2_with (first
    | (at_make; refine wpList_make_own _ rfl _ _ 22 rfl w.heap.size 3 i0 (.int .i64 0) 1 Yba.underlying22 HI.out.1 HI.out.2.1 HI.out.2.2.1 .i64 .i64 _ (z1.length + z2.length) rfl rfl (by omega) (by rw [HI.out.2.2.2]; omega) (by unfold maxLen; omega) (Nat.le_refl _) ?_; intro w1 hown1 hgrow1)
    | (at_builtin; refine wpList_append_fits_any _ rfl (.tmp 34) (.tmp 35) 22 rfl w.heap.size 3 i0 1 Yba.underlying22 HI.out.1 HI.out.2.2.1 w.heap.size 0 (z1.length + z2.length) [] rfl hown1 a1 z1.length c1 (z1.map (Value.int .i64)) rfl (by simp) HN1.out (at_cells H1.out (fun p u h => hgrow1.cell h (by simp))) (ints_oneCell _ _) (by omega) ?_; intro w2 hown2 hgrow2; simp only [Nat.zero_add, List.nil_append] at hown2)
    | (at_builtin; refine wpList_append_fits_any _ rfl (.tmp 37) (.tmp 38) 22 rfl w.heap.size 3 i0 1 Yba.underlying22 HI.out.1 HI.out.2.2.1 w.heap.size z1.length (z1.length + z2.length) _ rfl hown2 a2 z2.length c2 (z2.map (Value.int .i64)) rfl (by simp) HN2.out (at_cells H2.out (fun p u h => hgrow2.cell (hgrow1.cell h (by simp)) (by have := World.block_lt_of_cell? _ _ h; simp; omega))) (ints_oneCell _ _) (by omega) ?_; intro w3 hown3 hgrow3))
  clear hd1 hd2 hmm hins
  have hg1 := hgrow1.size
  have hg2 := hgrow2.size
  have hg3 := hgrow3.size
  have hNl : w.heap.size < w3.heap.size := (hown3.lt w.heap.size rfl).2
  have hcs := hown3.cells (g := w.heap.size) rfl
  have hB3 : Below w.heap.size w w3 := (((Below.refl _ w).grown hgrow1 (Nat.le_refl _) (fun k h => by cases h)).grown hgrow2 hg1 (fun k h => by cases h; exact Nat.le_refl _)).grown hgrow3 (by omega) (fun k h => by cases h; exact Nat.le_refl _)
  obtain ⟨f0, f1, f2, fM, f20, f21, fN, fT, fz, fB, fs⟩ := KW_facts w3 w.heap.size (z1.length + z2.length) z1.length i ((0 : Nat) : Int) hNl (z1 ++ z2) (fun j hj => by
    have := hcs j (.int .i64 ((z1 ++ z2).getD j 0)) (by rw [← List.map_append]; exact map_getD _ _ hj)
    rw [Addr.add_lit, Nat.zero_add] at this
    exact this)
  clear hown1 hown2 hown3 hgrow1 hgrow2 hgrow3 hcs
  refine (wait_lists w3.heap.size (w3.heap.size + 1 + 1 + 1) i 0 1 0 0 (w3.heap.size + 1) 0 1 1 (w3.heap.size + 1 + 1) 0 1 1 w.heap.size (z1.length + z2.length) z1 z2 _ f0 f1 f2 (by omega) (by omega) fM (by omega) f20 f21 (by omega) (by omega) (by omega) (by omega) fN fT (by omega) (by omega) fz (by omega) (by omega) (by omega)).mono ?_
  rintro e w4 ⟨aft, cA, av, cv, rfl, hat, hown, hbel⟩
  have hb4 : Below w.heap.size w w4 := by
    refine Below.trans ?_ (hbel.mono (by rw [fs]; omega))
    exact (hB3.trans (fB.mono (by omega))).setCell (by show w.heap.size ≤ w3.heap.size; omega) _
  clear f0 f1 f2 fM f20 f21 fN fT fz fB fs hbel hB3
  have HA1 : Hid (At w4 a1 z1) := fun j hj => by
    obtain ⟨b, o, hb, hc⟩ := H1.out j hj
    exact ⟨b, o, hb, by rw [hb4.cell (p := ⟨b, o + j, none⟩) (World.block_lt_of_cell? _ _ hc), hc]⟩
  have HA2 : Hid (At w4 a2 z2) := fun j hj => by
    obtain ⟨b, o, hb, hc⟩ := H2.out j hj
    exact ⟨b, o, hb, by rw [hb4.cell (p := ⟨b, o + j, none⟩) (World.block_lt_of_cell? _ _ hc), hc]⟩
  have HAT : Hid (At w4 aft z2) := hat
  have HOWN : Hid (At w4 av (but i z1 z1.length)) := at_of_owns hown
  have HB4 : Hid (Below w.heap.size w w4) := hb4
  clear hat hown hb4 H1 H2 hg1 hg2 hg3 hNl
  go_wp2_with fail
  go_loopw [17, 84] (fun v q wr => ∃ k : Nat, k ≤ z1.length ∧ q = .int .i64 k ∧ wr.ownsRow w4.heap.size 3 1 v (but i z1 k).length ((but i z1 k).map (Value.int .i64)) ∧ Below w4.heap.size w4 wr)
    (fun _ q _ => z1.length - (intOf q).toNat)
  case atStart => exact ⟨0, Nat.zero_le _, rfl, World.ownsRow_nil _ _ _ _, Below.refl _ _⟩
  case round =>
    obtain ⟨k, hk, rfl, hown, hbel⟩ := hrel
    have hbl := but_le i z1 k
    by_cases hlt : k < z1.length
    · obtain ⟨z, hzk⟩ : ∃ z, z1.getD k 0 = z := ⟨_, rfl⟩
      obtain ⟨b, o, hb, hc⟩ := HA1.out k hlt
      subst hb
      have hcx : wr.cell? ⟨b, o + k, none⟩ = some (.int .i64 z) := by rw [hbel.cell (p := ⟨b, o + k, none⟩) (World.block_lt_of_cell? _ _ hc), hc, hzk]
      clear hc
      by_cases hz : (z != i) = true
      · have HM1 : Hid (but i z1 (k + 1) = but i z1 k ++ [z]) := by have := but_hit i z1 k hlt (by rw [hzk]; exact hz); rw [hzk] at this; exact this
        clear hzk
        have hws : w4.heap.size ≤ wr.heap.size := hbel.size
        go_wp2_with (at_builtin; refine wpList_append_own _ rfl (.tmp 91) (.tmp 93) 22 rfl w4.heap.size 3 i0 (.int .i64 0) 1 8 Yba.underlying22 HI.out.1 HI.out.2.1 HI.out.2.2.1 HI.out.2.2.2 rfl (by decide) _ _ _ rfl (hown.alloc _) ⟨wr.heap.size, 0, none⟩ 1 1 [.int .i64 z] rfl rfl (cell_one_new _ _ _) (ints_oneCell .i64 [z]) (by unfold maxLen; omega) (by omega) (by simp; omega) ?_; intro v' w1 hown' hgrow hnil)
        have hall := (World.grownBy_alloc wr (.cells #[.int .i64 z] 3) _).trans hgrow
        have hbel1 : Below w4.heap.size w4 w1 := hbel.grown hall hws (fun j hj => (hown.lt j hj).1)
        clear hown hgrow hall hnil hbel
        go_wp2
        go_roundw
        case rel => exact ⟨k + 1, by omega, by go_num, by rw [HM1.out]; simpa using hown', hbel1⟩
        case measure => simp [intOf]; omega
      · have hz' : (z != i) = false := by simpa using hz
        have HM1 : Hid (but i z1 (k + 1) = but i z1 k) := but_miss i z1 k hlt (by rw [hzk]; exact hz')
        clear hz hzk
        go_wp2
        go_roundw
        case rel => exact ⟨k + 1, by omega, by go_num, by rw [HM1.out]; exact hown, hbel⟩
        case measure => simp [intOf]; omega
    · obtain rfl : k = z1.length := by omega
      obtain ⟨aw, cw, rfl⟩ := shape_of hown
      have hkeep : ∀ {a : Option Addr} {zs : List Int}, At w4 a zs → At wr a zs := fun {a zs} h j hj => by
        obtain ⟨b, o, hb, hc⟩ := h j hj
        exact ⟨b, o, hb, by rw [hbel.cell (p := ⟨b, o + j, none⟩) (World.block_lt_of_cell? _ _ hc), hc]⟩
      have HW : Hid (At wr aw (but i z1 z1.length)) := at_of_owns hown
      have H3 : Hid (At wr aft z2) := hkeep HAT.out
      have H4 : Hid (At wr a2 z2) := hkeep HA2.out
      have H5 : Hid (At wr av (but i z1 z1.length)) := hkeep HOWN.out
      have HB : Hid (Below w.heap.size w wr) := HB4.out.trans (hbel.mono HB4.out.size)
      clear hkeep hown hbel
      go_wp2_with fail
      refine (ceq_any aft a2 cA c2 z2 wr (by omega) H3.out H4.out).mono ?_
      rintro e w' ⟨rfl, n1, rfl⟩
      go_wp2_with fail
      refine (ceq_any av aw cv cw (but i z1 z1.length) (wr.drewN n1) (by omega) H5.out HW.out).mono ?_
      rintro e w' ⟨rfl, n2, rfl⟩
      go_wp2
      go_ret
      exact ⟨rfl, below_drewN HB.out _⟩

set_option maxHeartbeats 1000000 in
theorem knot_neg (i : Int) (a1 a2 : Option Addr) (c1 c2 : Nat) (z1 z2 : List Int) (neg : Bool) (nk : Int) (w : World)
    (hl1 : z1.length ≤ 1024) (hl2 : z2.length ≤ 1024) (hn1 : a1 = none → z1.length = 0 ∧ c1 = 0) (hn2 : a2 = none → z2.length = 0 ∧ c2 = 0)
    (h1 : At w a1 z1) (h2 : At w a2 z2) (hneg : neg = true) (hk0 : 0 ≤ nk) (hk1 : nk ≤ 255) :
    Calls Yba.prog 3 #[.int .i64 i, .slice a1 z1.length c1, .slice a2 z2.length c2, .bool neg, .int .u8 nk] w fun e w' => e = .returned (.bool true) ∧ Below w.heap.size w w' := by
  subst hneg
  obtain ⟨i0, hi, hz0, hz1, hz2⟩ := info_parts Yba.info3
  have HI : Hid (Yba.prog.info? 3 = some i0 ∧ i0.zero = some (.int .i64 0) ∧ i0.size = 1 ∧ i0.bytes = 8) := ⟨hi, hz0, hz1, hz2⟩
  clear hi hz0 hz1 hz2
  have hnil := fun (w : World) (n c : Nat) (a : Option Addr) => Lib.run_eql_slice_nil (P := Yba.prog) w 22 3 a n c 0 0 Yba.underlying22
  have hmm := @run_makeMap Yba.prog
  have hins := ins_one
  have H1 : Hid (At w a1 z1) := h1
  have H2 : Hid (At w a2 z2) := h2
  have HN1 : Hid (a1 = none → z1.length = 0 ∧ c1 = 0) := hn1
  have HN2 : Hid (a2 = none → z2.length = 0 ∧ c2 = 0) := hn2
  clear h1 h2 hn1 hn2
  have hd1 : decide (1024 < (z1.length : Int)) = false := by simp; omega
  have hd2 : decide (1024 < (z2.length : Int)) = false := by simp; omega
  go_enter Yba.func3, Yba.ntmps3
  go_wp2_with (first
    | (at_make; refine wpList_make_own _ rfl _ _ 22 rfl w.heap.size 3 i0 (.int .i64 0) 1 Yba.underlying22 HI.out.1 HI.out.2.1 HI.out.2.2.1 .i64 .i64 _ (z1.length + z2.length) rfl rfl (by omega) (by rw [HI.out.2.2.2]; omega) (by unfold maxLen; omega) (Nat.le_refl _) ?_; intro w1 hown1 hgrow1)
    | (at_builtin; refine wpList_append_fits_any _ rfl (.tmp 34) (.tmp 35) 22 rfl w.heap.size 3 i0 1 Yba.underlying22 HI.out.1 HI.out.2.2.1 w.heap.size 0 (z1.length + z2.length) [] rfl hown1 a1 z1.length c1 (z1.map (Value.int .i64)) rfl (by simp) HN1.out (at_cells H1.out (fun p u h => hgrow1.cell h (by simp))) (ints_oneCell _ _) (by omega) ?_; intro w2 hown2 hgrow2; simp only [Nat.zero_add, List.nil_append] at hown2)
    | (at_builtin; refine wpList_append_fits_any _ rfl (.tmp 37) (.tmp 38) 22 rfl w.heap.size 3 i0 1 Yba.underlying22 HI.out.1 HI.out.2.2.1 w.heap.size z1.length (z1.length + z2.length) _ rfl hown2 a2 z2.length c2 (z2.map (Value.int .i64)) rfl (by simp) HN2.out (at_cells H2.out (fun p u h => hgrow2.cell (hgrow1.cell h (by simp)) (by have := World.block_lt_of_cell? _ _ h; simp; omega))) (ints_oneCell _ _) (by omega) ?_; intro w3 hown3 hgrow3))
  clear hd1 hd2 hmm hins
  have hg1 := hgrow1.size
  have hg2 := hgrow2.size
  have hg3 := hgrow3.size
  have hNl : w.heap.size < w3.heap.size := (hown3.lt w.heap.size rfl).2
  have hB3 : Below w.heap.size w w3 := (((Below.refl _ w).grown hgrow1 (Nat.le_refl _) (fun k h => by cases h)).grown hgrow2 hg1 (fun k h => by cases h; exact Nat.le_refl _)).grown hgrow3 (by omega) (fun k h => by cases h; exact Nat.le_refl _)
  obtain ⟨f0, f1, f2, fM, f20, f21, fN, fT, fz, fB, fs⟩ := KW_facts w3 w.heap.size (z1.length + z2.length) z1.length i (-1 - nk % 8) hNl [] (fun j hj => by simp at hj)
  clear hown1 hown2 hown3 hgrow1 hgrow2 hgrow3
  refine (wait_neg w3.heap.size (w3.heap.size + 1 + 1 + 1) i (-1 - nk % 8) 0 1 0 _ f0 f1 f2 (by omega) (by omega) fM (by omega) (by omega)).mono ?_
  rintro e w4 ⟨rfl, n, hw4⟩
  have HB4 : Hid (Below w.heap.size w w4) := by
    rw [hw4]
    exact (below_drewN (hB3.trans (fB.mono (by omega))) n).setCell (by show w.heap.size ≤ w3.heap.size; omega) _
  clear f0 f1 f2 fM f20 f21 fN fT fz fB fs hB3 hw4
  go_wp2
  go_ret
  exact ⟨rfl, HB4.out⟩

theorem knot_long (i : Int) (a1 a2 : Option Addr) (n1 n2 c1 c2 : Nat) (neg : Bool) (nk : Int) (w : World) (hm1 : n1 ≤ maxLen) (hm2 : n2 ≤ maxLen) (h : 1024 < n1 ∨ 1024 < n2) :
    Calls Yba.prog 3 #[.int .i64 i, .slice a1 n1 c1, .slice a2 n2 c2, .bool neg, .int .u8 nk] w fun e w' => e = .returned (.bool true) ∧ Below w.heap.size w w' := by
  unfold maxLen at hm1 hm2
  by_cases h1 : 1024 < n1
  · have hd1 : decide (1024 < (n1 : Int)) = true := by simp; omega
    clear h
    go_enter Yba.func3, Yba.ntmps3
    go_wp2
    go_ret
    exact ⟨rfl, Below.refl _ _⟩
  · have hd1 : decide (1024 < (n1 : Int)) = false := by simp; omega
    have hd2 : decide (1024 < (n2 : Int)) = true := by simp; omega
    clear h
    go_enter Yba.func3, Yba.ntmps3
    go_wp2
    go_ret
    exact ⟨rfl, Below.refl _ _⟩

end Go.Proofs.Ybulkcogu
