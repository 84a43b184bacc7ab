import Derived.Test.YbulkcoguDoorLawReplay
import Derived.Test.YbulkcoguDoorBackLaw
namespace Go.Proofs.YbulkcoguDoor
open Go.RowKit Go.Deep
set_option linter.unusedVariables false
set_option linter.unusedSimpArgs false

set_option maxHeartbeats 1000000 in
theorem undo_long (mr sr : Int) (a3 a4 a5 a6 : Option Addr) (l3 l4 l5 l6 c3 c4 c5 c6 : Nat) (w : World) (h : 1024 < l6) :
    Calls Ybad.prog 3 #[.int .u8 mr, .int .u8 sr, .slice a3 l3 c3, .slice a4 l4 c4, .slice a5 l5 c5, .slice a6 l6 c6] w fun e w' => e = .returned (.bool true) ∧ Below w.heap.size w w' := by
  have hd : decide ((l6 : Int) > 1024) = true := by simp; omega
  go_enter Ybad.func3, Ybad.ntmps3
  go_wp2
  go_ret
  exact ⟨rfl, Below.refl _ _⟩

/-- What stands when j members have been placed while recording. -/
structure Rec (L : Lay) (wait : Nat → Int) (ord : List Nat) (fo : Nat → Option (Array Value × TypeId)) (j : Nat) (st : St) : Prop where
  inv : Inv L.add L.rd wait L.m L.s (ord.take j) st.ps
  pl : st.pl = ord.take j
  rc : st.rc = true
  mks : st.mks.length = j
  ems : st.ems.length = j
  pc : st.pc = j
  sv : st.sv ≤ j
  tr : st.tr.length = j
  tk : st.taken ≤ 1000 * j
  fo : st.fo = fo

theorem Rec.wtb {L : Lay} {wait : Nat → Int} {ord : List Nat} {fo : Nat → Option (Array Value × TypeId)} {j : Nat} {st : St} (h : Rec L wait ord fo j st) (hwb : ∀ u, u < L.n → -128 ≤ wait u ∧ wait u ≤ 127) : ∀ u, u < L.n → -900 ≤ st.wt u ∧ st.wt u ≤ 900 := fun u hu => by
  have h9 : st.wt u = Wt L.add wait st.live u := h.inv.wt u
  have h8 := hwb u hu
  have h7 := sumW_bound (f := fun v => if st.live.testBit v then 0 else bit (L.add v) u) (fun i => by
    split
    · omega
    · exact bit_01 _ _) 9
  unfold Wt at h9
  omega

theorem Rec.lfb {L : Lay} {wait : Nat → Int} {ord : List Nat} {fo : Nat → Option (Array Value × TypeId)} {j : Nat} {st : St} (h : Rec L wait ord fo j st) (G : Good L) : ∀ g, g < L.s → -900 ≤ st.lf g ∧ st.lf g ≤ 900 := fun g hg => by
  have h9 : st.lf g = (Cn L.rd L.m g : Int) - (Pn L.rd L.m (ord.take j) g : Int) := h.inv.lf g hg
  have h8 : Cn L.rd L.m g ≤ L.m := cnt_bound _ _
  have h7 : Pn L.rd L.m (ord.take j) g ≤ L.m := cnt_bound _ _
  have := G.m6
  omega

theorem Rec.lvb {L : Lay} {wait : Nat → Int} {ord : List Nat} {fo : Nat → Option (Array Value × TypeId)} {j : Nat} {st : St} (h : Rec L wait ord fo j st) (G : Good L) : st.live < 512 := by
  have h9 : st.live < 2 ^ (L.m + L.s) := h.inv.lt
  have hn : L.n ≤ 9 := by have := G.m6; have := G.s3; unfold Lay.n; omega
  exact Nat.lt_of_lt_of_le h9 (Nat.pow_le_pow_right (n := 2) (by omega) hn)

theorem ord_step {ord : List Nat} (hnd : ord.Nodup) {j i : Nat} (hjl : j < ord.length) (hi : ord.getD j 0 = i) : i ∈ ord ∧ ord.take (j + 1) = ord.take j ++ [i] ∧ i ∉ ord.take j := by
  have hgi : ord[j] = i := by rw [← hi]; simp [hjl]
  have htk' : ord.take (j + 1) = ord.take j ++ [i] := by rw [List.take_succ_eq_append_getElem hjl, hgi]
  refine ⟨by rw [← hgi]; exact List.getElem_mem hjl, htk', fun hin => ?_⟩
  have hn2 : (ord.take (j + 1)).Nodup := List.Nodup.sublist (List.take_sublist _ _) hnd
  rw [htk', List.nodup_append] at hn2
  exact hn2.2.2 _ hin _ (by simp) rfl

/-- One more member is placed. -/
theorem Rec.next {L : Lay} {wait : Nat → Int} {ord : List Nat} {fo : Nat → Option (Array Value × TypeId)} {j : Nat} {st st8 : St} (h : Rec L wait ord fo j st) (G : Good L) {i : Nat} (hi : i < L.m) (hni : i ∉ ord.take j) (htk : ord.take (j + 1) = ord.take j ++ [i]) (hP : Placing L i (L.rd i).length st st8) : Rec L wait ord fo (j + 1) st8 := by
  obtain ⟨d1, d2, d3, d4, d5⟩ := hP.on h.rc
  have hps : st8.ps = placeP L.add L.rd L.m i st.ps := by
    have := hP.ps
    rw [List.take_length] at this
    exact this
  have hrl := G.rdle i hi
  have hn : L.m + L.s ≤ 9 := by have := G.m6; have := G.s3; omega
  have h1 := h.mks; have h2 := h.ems; have h3 := h.pc; have h4 := h.tr; have h5 := h.tk; have h6 := hP.tk
  refine ⟨?_, by rw [hP.pl, h.pl, htk], hP.rc.trans h.rc, by rw [d1]; simp [h1], by rw [d2]; simp [h2], by rw [d3, h3], by rw [d4, h3]; exact Nat.le_refl _, by rw [d5]; simp [h4], by omega, hP.fo.trans h.fo⟩
  rw [htk, hps]
  exact h.inv.place hn hi hni (G.rdlt i hi) (G.rdnd i hi)

theorem Rec.place {L : Lay} {wait : Nat → Int} {ord : List Nat} {fo : Nat → Option (Array Value × TypeId)} {j : Nat} {st : St} (h : Rec L wait ord fo j st) (G : Good L) (hwb : ∀ u, u < L.n → -128 ≤ wait u ∧ wait u ≤ 127) (hj : j ≤ 6) {w : World} (hS : Sta L st w) {i : Nat} (hi : i < L.m) :
    Calls Ybad.prog 7 #[.pointer (some ⟨L.K, 0, none⟩), .int .i64 i] w fun e w' => e = .returned (.bool true) ∧ ∃ st'', Sta L st'' w' ∧ Placing L i (L.rd i).length st st'' :=
  place_any G hS (by rw [h.tr]; omega) (h.lvb G) (by rw [h.pc]; omega) (by rw [h.pc]; exact h.sv) (by have := h.tk; omega) (h.wtb hwb) (h.lfb G) (by rw [h.pl, List.length_take]; omega) (by rw [h.mks]; omega) (by rw [h.ems]; omega) i hi

/-- The last one is taken back. -/
theorem Rec.unplace {L : Lay} {wait : Nat → Int} {ord : List Nat} {fo : Nat → Option (Array Value × TypeId)} {k : Nat} {st st8 : St} (h : Rec L wait ord fo k st) (G : Good L) (hwb : ∀ u, u < L.n → -128 ≤ wait u ∧ wait u ≤ 127) (hk : k ≤ 6) (hkl : k ≤ ord.length) {i : Nat} (hi : i < L.m) (hni : i ∉ ord.take k) (htk : ord.take (k + 1) = ord.take k ++ [i]) (hP : Placing L i (L.rd i).length st st8) {w : World} (hS : Sta L st8 w) :
    Calls Ybad.prog 8 #[.pointer (some ⟨L.K, 0, none⟩), .int .i64 i] w fun e w' => e = .returned (.tuple #[]) ∧ ∃ st9, Sta L st9 w' ∧ Inv L.add L.rd wait L.m L.s (ord.take k) st9.ps ∧ st9.pl = ord.take k ∧ st9.rc = true ∧ st9.mks.length = k ∧ st9.ems.length = k ∧ st9.tr.length = k ∧ st9.fo = fo := by
  have h8 := h.next G hi hni htk hP
  obtain ⟨d1, d2, d3, d4, d5⟩ := hP.on h.rc
  have hlen : (ord.take k).length = k := by rw [List.length_take]; omega
  have hn : L.m + L.s ≤ 9 := by have := G.m6; have := G.s3; omega
  refine (unplace_rec G hS h8.rc (ord.take k) st.mks st.ems st.tr st.live i k hi (by rw [hP.pl, h.pl]) d1 d2 d5 hlen h.mks h.ems (by omega) (by rw [h.tr]; omega) h.inv.lt (h8.lvb G) (by have := h8.tk; omega) (h8.wtb hwb) (h8.lfb G)).mono ?_
  rintro e w' ⟨rfl, st9, hS9, hU⟩
  have hI8 := h8.inv
  rw [htk] at hI8
  refine ⟨rfl, st9, hS9, ?_, hU.pl, hU.rc, by rw [hU.mks]; exact h.mks, by rw [hU.ems]; exact h.ems, by rw [hU.tr]; exact h.tr, hU.fo.trans h8.fo⟩
  exact h.inv.taken hI8 hn (fun v => Nat.lt_of_lt_of_le (G.add_lt v) (pow_le_512 (m := L.m) (s := L.s) hn)) hi hni (G.rdnd i hi) hU.live hU.wt hU.lf

theorem kArr_same (v1 v2 v4 v6 v7 v9 v10 v11 v12 v16 v38 v39 : Value) : ((kArr v1 v2 v4 v6 v7 v9 v10 v11 v12 v16 v38 v39).setIfInBounds 18 (.slice none 0 0)).setIfInBounds 19 (.slice none 0 0) = kArr v1 v2 v4 v6 v7 v9 v10 v11 v12 v16 v38 v39 := by
  unfold kArr
  simp only [List.setIfInBounds_toArray, List.set_cons_zero, List.set_cons_succ]

set_option maxRecDepth 100000 in
set_option maxHeartbeats 4000000 in
theorem undo_some (mr sr : Nat) (hmr : mr < 256) (hsr : sr < 256) (rm ad : List Nat) (wa : List Int) (raw : List Nat) (a3 a4 a5 a6 : Option Addr) (c3 c4 c5 c6 : Nat) (w : World) (h3 : AtB8 w a3 rm) (h4 : AtU64 w a4 ad) (h5 : AtI8 w a5 wa) (h6 : AtB8 w a6 raw) (hl : raw.length ≤ 1024) (hc6 : raw.length ≤ c6) (htab : TabAt 0 Lib.deBruijn64tab w) (h0 : 0 < w.heap.size) :
    Calls Ybad.prog 3 #[.int .u8 mr, .int .u8 sr, .slice a3 rm.length c3, .slice a4 ad.length c4, .slice a5 wa.length c5, .slice a6 raw.length c6] w fun e w' => e = .returned (.bool true) ∧ Below w.heap.size w w' := by
  obtain ⟨m, hm⟩ : ∃ m, 1 + mr % 6 = m := ⟨_, rfl⟩
  obtain ⟨s, hs⟩ : ∃ s, sr % 4 = s := ⟨_, rfl⟩
  have hm1 : 1 ≤ m := by omega
  have hm6 : m ≤ 6 := by omega
  have hs3 : s ≤ 3 := by omega
  have q1 : (mr : Int).tmod 6 = ((mr % 6 : Nat) : Int) := by rw [Int.tmod_eq_emod_of_nonneg (by omega)]; rfl
  have q2 : (sr : Int).tmod 4 = (s : Int) := by rw [Int.tmod_eq_emod_of_nonneg (by omega), ← hs]; rfl
  have q3 : (1 : Int) + ((mr % 6 : Nat) : Int) = (m : Int) := by omega
  obtain ⟨m0, hm0⟩ : ∃ x, mr % 6 = x := ⟨_, rfl⟩
  rw [hm0] at q1 q3
  have hm05 : m0 ≤ 5 := by omega
  have q4 : IntKind.u8.wrap (m0 : Int) = m0 := by rw [IntKind.wrap_u8]; omega
  have q5 : IntKind.u8.wrap (s : Int) = s := by rw [IntKind.wrap_u8]; omega
  have HBD : Hid (Calls Ybad.prog 5 #[.int .i64 m, .int .i64 s, .slice a3 rm.length c3, .slice a4 ad.length c4, .slice a5 wa.length c5] w fun e w' => ∃ K : Nat, e = .returned (.pointer (some ⟨K, 0, none⟩)) ∧ Built m s rm ad wa w w' K) := build_any m s hm1 hm6 hs3 rm ad wa a3 a4 a5 c3 c4 c5 w h3 h4 h5
  have H3 : Hid (AtB8 w a3 rm) := h3
  have H4 : Hid (AtU64 w a4 ad) := h4
  have H5 : Hid (AtI8 w a5 wa) := h5
  have H6 : Hid (AtB8 w a6 raw) := h6
  have HT : Hid (TabAt 0 Lib.deBruijn64tab w) := htab
  have HL6 : Hid (raw.length ≤ 1024) := hl
  obtain ⟨l3, hl3⟩ : ∃ l, rm.length = l := ⟨_, rfl⟩
  obtain ⟨l4, hl4⟩ : ∃ l, ad.length = l := ⟨_, rfl⟩
  obtain ⟨l5, hl5⟩ : ∃ l, wa.length = l := ⟨_, rfl⟩
  obtain ⟨l6, hl6⟩ : ∃ l, raw.length = l := ⟨_, rfl⟩
  have HL3 : Hid (rm.length = l3 ∧ ad.length = l4 ∧ wa.length = l5 ∧ raw.length = l6) := ⟨hl3, hl4, hl5, hl6⟩
  rw [hl3, hl4, hl5] at HBD
  rw [hl6] at hl hc6
  rw [hl3, hl4, hl5, hl6]
  have hdl : decide ((l6 : Int) > 1024) = false := by simp; omega
  clear h3 h4 h5 h6 htab hm hs hm0 hl3 hl4 hl5 hl6
  go_enter Ybad.func3, Ybad.ntmps3
  go_upto_region 6 with (go_at_call 5; refine HBD.out.mono ?_; rintro _ wb ⟨K, rfl, hBt⟩; have HBT : Hid (Built m s rm ad wa w wb K) := hBt; clear hBt)
  obtain ⟨L, G, e1, e2, e3, e4, e7, hTold, hcnt, hSt, hbel⟩ : ∃ L : Lay, Good L ∧ L.w1 = wb ∧ L.K = K ∧ L.m = m ∧ L.s = s ∧ L.bB = w.heap.size ∧ Told L rm ad wa (waitv wa) ∧ (∀ g, g < L.s → L.cnt g = Cn L.rd L.m g) ∧ Sta L (startSt (2 ^ L.n - 1) (waitv wa) (fun g => (L.cnt g : Int))) wb ∧ Below w.heap.size w wb := by
    obtain ⟨B, n, F, bG, S, bO, rvs, col, v16, v38, v39, eB, en, eF, o1, o2, o3, o4, o5, o6, o7, hRS, hG, hS, hO, hKb, hrb⟩ := HBT.out.all
    have hbel := hRS.bel
    obtain ⟨L, G, e1, e2, e3, e4, e5, e6, e7, e8, e9, hTold, hcnt, hBB, hWW, hSt, hspec⟩ := HBT.out.lay (w1 := wb) hm1 hm6 hs3 (.slice none 0 0) (.slice none 0 0) h0 (Nat.le_refl _) (fun _ _ _ => rfl) (fun kk' hk' => by
      have h9 := hKb.symm.trans hk'
      simp only [Option.some.injEq, Obj.cells.injEq, and_true] at h9
      rw [← h9, hKb, kArr_same]) (fun j hj => (hbel.cell (p := ⟨0, j, none⟩) h0).trans (HT.out j hj))
    exact ⟨L, G, e1, e2, e3, e4, e7, hTold, hcnt, hSt, hbel⟩
  have hInv0 : Inv L.add L.rd (waitv wa) L.m L.s [] (startSt (2 ^ L.n - 1) (waitv wa) (fun g => (L.cnt g : Int))).ps :=
    Inv.start (by have := G.m6; have := G.s3; omega) rfl (fun u => rfl) hTold.add0 (fun g hg => by show (L.cnt g : Int) = _; rw [hcnt g hg])
  have hwb : ∀ u, u < L.n → -128 ≤ waitv wa u ∧ waitv wa u ≤ 127 := fun u hu => by
    unfold waitv
    split
    · rename_i h
      obtain ⟨_, _, _, _, h2, _⟩ := H5.out u h
      exact h2
    · omega
  subst e1 e2 e3 e4
  have hn : L.n ≤ 9 := by have := G.m6; have := G.s3; unfold Lay.n; omega
  obtain ⟨W0, hW0⟩ : ∃ x, x = L.w1 := ⟨_, rfl⟩
  rw [← hW0] at hSt hbel ⊢
  have k4 := hSt.core.fix.k G (o := 4) rfl
  have k20 := hSt.core.kd 20 _ rfl
  have f20 := hSt.fK G 20
  have k24 := hSt.core.kd 24 _ rfl
  have f24 := hSt.fK G 24
  have lK0 : L.K < W0.heap.size := Nat.lt_of_lt_of_le G.Kl hSt.core.fix.size
  obtain ⟨M, hM⟩ : ∃ x, 2 * L.n + 1 = x := ⟨_, rfl⟩
  rw [hM] at k4
  have hM19 : M ≤ 19 := by omega
  have m28 := fun w => run_make_row' (P := Ybad.prog) 28 3 (.int .i64 0) 8 Ybad.underlying28 Ybad.info3 rfl .i64 .i64 M (by omega) (by omega) w
  obtain ⟨col5, hS5⟩ := hSt.startRec G rfl hM.symm
  have hsz : W0.heap.size < 18446744073709551616 ∨ True := .inr trivial
  have HS5 : Hid (Sta L _ _) := hS5
  have HG : Hid (Good L) := G
  have HTO : Hid (Told L rm ad wa (waitv wa)) := hTold
  have HIN : Hid (Inv L.add L.rd (waitv wa) L.m L.s [] (startSt (2 ^ L.n - 1) (waitv wa) (fun g => (L.cnt g : Int))).ps) := hInv0
  have HWB : Hid (∀ u, u < L.n → -128 ≤ waitv wa u ∧ waitv wa u ≤ 127) := hwb
  have HBL : Hid (Below w.heap.size w L.w1 ∧ L.bB = w.heap.size) := ⟨by rw [← hW0]; exact hbel, e7⟩
  clear hTold hcnt hSt hbel hInv0 hwb hS5 hW0 hM e7 HBT HBD hsz
  simp only [startSt] at k20 k24
  go_upto_region 8 with (fail)
  obtain ⟨W1, hW1⟩ : ∃ x, x = ((W0.setCell ⟨L.K, 20, none⟩ (.bool true)).setCell ⟨L.K, 24, none⟩ (.slice (some ⟨W0.heap.size, 0, none⟩) M M)).alloc (.cells (madeCells #[.int .i64 0] M) 3) := ⟨_, rfl⟩
  rw [← hW1]
  obtain ⟨st1, hS1, hr1⟩ : ∃ s : St, Sta L s W1 ∧ (s.ps = (startSt (2 ^ L.n - 1) (waitv wa) (fun g => (L.cnt g : Int))).ps ∧ s.pl = [] ∧ s.rc = true ∧ s.mks = [] ∧ s.ems = [] ∧ s.pc = 0 ∧ s.sv = 0 ∧ s.tr = [] ∧ s.taken = 0) := by
    have h9 := HS5.out
    rw [alloc_set _ _ _ _ _ lK0, alloc_set _ _ _ _ _ (by rw [World.size_setCell]; exact lK0)] at h9
    rw [hW1]
    exact ⟨_, h9, rfl, rfl, rfl, rfl, rfl, rfl, rfl, rfl, rfl⟩
  have hbel1 : Below w.heap.size w W1 := hS1.core.fix.below HBL.out.1 (by rw [HBL.out.2]; exact Nat.le_refl _) G
  have hraw1 : AtB8 W1 a6 raw := fun j hj => by
    obtain ⟨b, o, h1, h2, h3, h4⟩ := H6.out j hj
    exact ⟨b, o, h1, Nat.lt_of_lt_of_le h2 hbel1.size, h3, Below.cells hbel1 h2 h4⟩
  have HOR : Hid (Calls Ybad.prog 6 #[.int .i64 L.m, .slice a6 l6 c6] W1 fun e w' => ∃ (ord : List Nat) (g cap : Nat), e = .returned (.slice (some ⟨g, 0, none⟩) ord.length cap) ∧ ord ≠ [] ∧ ord.Nodup ∧ (∀ v ∈ ord, v < L.m) ∧ ord.length ≤ 6 ∧ w'.ownsRow W1.heap.size 3 1 (.slice (some ⟨g, 0, none⟩) ord.length cap) ord.length (ord.map encI) ∧ Below W1.heap.size W1 w') := by
    have := order_any L.m hm1 hm6 a6 c6 raw HL6.out (by rw [HL3.out.2.2.2]; exact hc6) W1 hraw1
    rw [HL3.out.2.2.2] at this
    exact this
  have HS1 : Hid (Sta L st1 W1) := hS1
  have HR1 : Hid (st1.ps = (startSt (2 ^ L.n - 1) (waitv wa) (fun g => (L.cnt g : Int))).ps ∧ st1.pl = [] ∧ st1.rc = true ∧ st1.mks = [] ∧ st1.ems = [] ∧ st1.pc = 0 ∧ st1.sv = 0 ∧ st1.tr = [] ∧ st1.taken = 0) := hr1
  clear hS1 hr1 hW1 hbel1 hraw1 HS5 k4 k20 f20 k24 f24 m28 lK0
  go_upto_region 9 with (go_at_call 6; refine HOR.out.mono ?_; rintro _ w1 ⟨ord, g, cap, rfl, u1, u2, u3, u4, u5, u6⟩; have HO : Hid (ord ≠ [] ∧ ord.Nodup ∧ (∀ v ∈ ord, v < L.m) ∧ ord.length ≤ 6 ∧ w1.ownsRow W1.heap.size 3 1 (.slice (some ⟨g, 0, none⟩) ord.length cap) ord.length (ord.map encI) ∧ Below W1.heap.size W1 w1) := ⟨u1, u2, u3, u4, u5, u6⟩; clear u1 u2 u3 u4 u5 u6)
  obtain ⟨u1, u2, u3, u4, u5, u6⟩ := HO.out
  obtain ⟨g', cap', cur, hsl, hbg, hhg, hcapo, hcur⟩ := row_form u5 (by intro h; cases h)
  have hgg : g' = g ∧ cap' = cap := by simp only [Value.slice.injEq, Option.some.injEq, Addr.mk.injEq, and_true, true_and] at hsl; exact ⟨hsl.1.symm, hsl.2.symm⟩
  obtain ⟨rfl, rfl⟩ := hgg
  obtain ⟨st4, hS4, hr4, hfo⟩ : ∃ st4 : St, Sta L st4 w1 ∧ Rec L (waitv wa) ord st4.fo 0 st4 ∧ st4.fo g' = some (cur, 3) := by
    obtain ⟨z1, z2, z3, z4, z5, z6, z7, z8, z9⟩ := HR1.out
    refine ⟨_, HS1.out.keepNew G u6 g' cur 3 hhg hbg, ⟨?_, z2, z3, ?_, ?_, z6, ?_, ?_, ?_, rfl⟩, ?_⟩
    · show Inv L.add L.rd (waitv wa) L.m L.s [] st1.ps
      rw [z1]; exact HIN.out
    · show st1.mks.length = 0
      rw [z4]; rfl
    · show st1.ems.length = 0
      rw [z5]; rfl
    · show st1.sv ≤ 0
      rw [z7]; exact Nat.le_refl _
    · show st1.tr.length = 0
      rw [z8]; rfl
    · show st1.taken ≤ 1000 * 0
      rw [z9]; exact Nat.le_refl _
    · simp
  have hcord : ∀ W s, Sta L s W → s.fo = st4.fo → g' < W.heap.size ∧ ∀ j, j < ord.length → W.cell? ⟨g', j, none⟩ = some (.int .i64 (ord.getD j 0 : Nat)) := fun W s hW hs => by
    have h9 := hW.rest.fo g' (cur, 3) (by rw [hs]; exact hfo)
    refine ⟨(Array.getElem?_eq_some_iff.1 h9).1, fun j hj => cell_in h9 ?_⟩
    have h7 := congrArg (fun l : List Value => l[j]?) hcur
    simp only [List.getElem?_take, if_pos hj, List.getElem?_map] at h7
    rw [← Array.getElem?_toList, h7]
    simp [hj, encI]
  obtain ⟨k, hk⟩ : ∃ k, ord.length = k + 1 := ⟨ord.length - 1, by have : ord.length ≠ 0 := fun e => u1 (List.eq_nil_of_length_eq_zero e); omega⟩
  have HCO : Hid (∀ W s, Sta L s W → s.fo = st4.fo → g' < W.heap.size ∧ ∀ j, j < ord.length → W.cell? ⟨g', j, none⟩ = some (.int .i64 (ord.getD j 0 : Nat))) := hcord
  have HS4 : Hid (Sta L st4 w1) := hS4
  have HR4 : Hid (Rec L (waitv wa) ord st4.fo 0 st4) := hr4
  have HOK : Hid (ord.Nodup ∧ (∀ v ∈ ord, v < L.m) ∧ ord.length ≤ 6 ∧ ord.length = k + 1) := ⟨u2, u3, u4, hk⟩
  obtain ⟨N1, hN1⟩ : ∃ N1, ord.length = N1 := ⟨_, rfl⟩
  have HN1 : Hid (ord.length = N1) := hN1
  obtain ⟨last, hlast⟩ : ∃ x, ord.getD k 0 = x := ⟨_, rfl⟩
  have clast : w1.cell? ⟨g', k, none⟩ = some (.int .i64 last) := by rw [(hcord _ _ hS4 rfl).2 k (by omega), hlast]
  have HLA : Hid (ord.getD k 0 = last) := hlast
  have hkN : k + 1 = N1 := by omega
  have hkI : (N1 : Int) - 1 = (k : Int) := by omega
  have hN6 : N1 ≤ 6 := by omega
  have hkc : k ≤ cap' := by omega
  rw [hN1]
  clear HO u1 u2 u3 u4 u5 u6 hsl hbg hhg hcapo hcur hS4 hr4 hfo hcord hk hN1 hlast HOR HS1 HR1 HIN
  clear G
  go_wp2
  go_loopw [66] (fun q wr => ∃ (j : Nat) (st' : St), j ≤ k ∧ q = .int .i64 j ∧ Sta L st' wr ∧ Rec L (waitv wa) ord st4.fo j st') (fun q _ => k - (intOf q).toNat)
  case atStart => exact ⟨0, _, Nat.zero_le _, rfl, HS4.out, HR4.out⟩
  case round =>
    obtain ⟨j, st', hj, rfl, hS', hR'⟩ := hrel
    have G := HG.out
    by_cases hlt : j < k
    · have hjl : j < ord.length := by rw [HN1.out]; omega
      have cij := (HCO.out wr st' hS' hR'.fo).2 j hjl
      obtain ⟨i, hi⟩ : ∃ i, ord.getD j 0 = i := ⟨_, rfl⟩
      rw [hi] at cij
      obtain ⟨v1, v2, v3⟩ := ord_step HOK.out.1 hjl hi
      have him : i < L.m := HOK.out.2.1 i v1
      have HPLC : Hid (Calls Ybad.prog 7 #[.pointer (some ⟨L.K, 0, none⟩), .int .i64 i] wr fun e w' => e = .returned (.bool true) ∧ ∃ st'', Sta L st'' w' ∧ Rec L (waitv wa) ord st4.fo (j + 1) st'') :=
        (hR'.place G HWB.out (by omega) hS' him).mono (by rintro e w' ⟨rfl, st'', t1, t2⟩; exact ⟨rfl, st'', t1, hR'.next G him v3 v2 t2⟩)
      clear hS' hR' hi v1 v2 v3 hjl him G clast
      go_wp2_with (first | (go_at_call 7; refine HPLC.out.mono ?_; rintro _ w8 ⟨rfl, st8, hS8, hP8⟩; have HS8 : Hid (Sta L st8 w8 ∧ Rec L (waitv wa) ord st4.fo (j + 1) st8) := ⟨hS8, hP8⟩; clear hS8 hP8))
      go_roundw
      case rel => exact ⟨j + 1, st8, by omega, by go_num, HS8.out.1, HS8.out.2⟩
      case measure => simp [intOf]; omega
    · obtain rfl : j = k := by omega
      have hjl : j < ord.length := by rw [HN1.out]; omega
      obtain ⟨v1, v2, v3⟩ := ord_step HOK.out.1 hjl HLA.out
      have him : last < L.m := HOK.out.2.1 last v1
      have k23 := hS'.core.kd 23 _ rfl
      rw [hR'.tr] at k23
      have HPLC : Hid (Calls Ybad.prog 7 #[.pointer (some ⟨L.K, 0, none⟩), .int .i64 last] wr fun e w' => e = .returned (.bool true) ∧ ∃ st'', Sta L st'' w' ∧ Placing L last (L.rd last).length st' st'') := hR'.place G HWB.out (by omega) hS' him
      have HUNP : Hid (∀ st'' w', Sta L st'' w' → Placing L last (L.rd last).length st' st'' → Calls Ybad.prog 8 #[.pointer (some ⟨L.K, 0, none⟩), .int .i64 last] w' fun e w' => e = .returned (.tuple #[]) ∧ ∃ st9, Sta L st9 w' ∧ Inv L.add L.rd (waitv wa) L.m L.s (ord.take j) st9.ps ∧ st9.pl = ord.take j ∧ st9.rc = true ∧ st9.mks.length = j ∧ st9.ems.length = j ∧ st9.tr.length = j ∧ st9.fo = st4.fo) :=
        fun st'' w' t1 t2 => hR'.unplace G HWB.out (by omega) (by omega) him v3 v2 t2 t1
      clear hS' hR' v1 v2 v3 hjl him clast G
      go_upto_region 19 with (first | (go_at_call 7; refine HPLC.out.mono ?_; rintro _ w8 ⟨rfl, st8, hS8, hP8⟩; have HS8 : Hid (Sta L st8 w8 ∧ Placing L last (L.rd last).length st' st8) := ⟨hS8, hP8⟩; clear hS8 hP8 k23) | (go_at_call 8; refine (HUNP.out _ _ HS8.out.1 HS8.out.2).mono ?_; rintro _ w9 ⟨rfl, st9, s1, s2, s3, s4, s5, s6, s7, s8⟩; have HS9 : Hid (Sta L st9 w9 ∧ Inv L.add L.rd (waitv wa) L.m L.s (ord.take j) st9.ps ∧ st9.pl = ord.take j ∧ st9.rc = true ∧ st9.mks.length = j ∧ st9.ems.length = j ∧ st9.tr.length = j ∧ st9.fo = st4.fo) := ⟨s1, s2, s3, s4, s5, s6, s7, s8⟩; clear s1 s2 s3 s4 s5 s6 s7 s8))
      obtain ⟨s1, s2, s3, s4, s5, s6, s7, s8⟩ := HS9.out
      have G := HG.out
      have hb9 : Below w.heap.size w w9 := s1.core.fix.below HBL.out.1 (by rw [HBL.out.2]; exact Nat.le_refl _) G
      have k20 := s1.core.kd 20 _ rfl
      have k21 := s1.core.kd 21 _ rfl
      have k38 := s1.core.kd 38 _ rfl
      have k23 := s1.core.kd 23 _ rfl
      obtain ⟨ma, mc, hvm, _, _⟩ := row_at s1.rest.rm rfl
      obtain ⟨ea, ec, hve, _, _⟩ := row_at s1.rest.re rfl
      rw [s4] at k20
      rw [hvm, s5] at k21
      rw [hve, s6] at k38
      rw [s7] at k23
      have HCK : Hid (∀ nn, Calls Ybad.prog 9 #[.pointer (some ⟨L.K, 0, none⟩), .int .i64 L.m, .int .i64 L.s, .slice a3 l3 c3, .slice a4 l4 c4, .slice a5 l5 c5, .slice (some ⟨g', 0, none⟩) j cap'] (w9.drewN nn) fun e w' => e = .returned (.bool true) ∧ Below w9.heap.size w9 w') := by
        intro nn
        have hb9n : Below w.heap.size w (w9.drewN nn) := below_drewN hb9 nn
        have g3 : AtB8 (w9.drewN nn) a3 rm := fun j hj => by
          obtain ⟨b, o, h1, h2, h3, h4⟩ := H3.out j hj
          exact ⟨b, o, h1, Nat.lt_of_lt_of_le h2 hb9n.size, h3, Below.cells hb9n h2 h4⟩
        have g4 : AtU64 (w9.drewN nn) a4 ad := fun j hj => by
          obtain ⟨b, o, h1, h2, h3, h4⟩ := H4.out j hj
          exact ⟨b, o, h1, Nat.lt_of_lt_of_le h2 hb9n.size, h3, Below.cells hb9n h2 h4⟩
        have g5 : AtI8 (w9.drewN nn) a5 wa := fun j hj => by
          obtain ⟨b, o, h1, h2, h3, h4⟩ := H5.out j hj
          exact ⟨b, o, h1, Nat.lt_of_lt_of_le h2 hb9n.size, h3, Below.cells hb9n h2 h4⟩
        have hlk : (ord.take j).length = j := by rw [List.length_take, HN1.out]; omega
        obtain ⟨hgl, hco⟩ := HCO.out (w9.drewN nn) st9 (s1.drewN nn) s8
        have g6 : AtI (w9.drewN nn) (some ⟨g', 0, none⟩) st9.pl := fun i hi => by
          rw [s3] at hi ⊢
          have hjk : i < j := by rw [hlk] at hi; exact hi
          refine ⟨g', 0, rfl, ?_⟩
          rw [Nat.zero_add]
          have h9 := hco i (by rw [HN1.out]; omega)
          have e9 : (ord.take j).getD i 0 = ord.getD i 0 := by simp [List.getD, hjk]
          rw [e9]
          exact h9
        have h9 := check_any G (s1.drewN nn) rm ad wa (waitv wa) HTO.out (by rw [s3]; exact s2) a3 a4 a5 (some ⟨g', 0, none⟩) c3 c4 c5 cap' g3 g4 g5 g6 (fun b o e => by
          cases e
          exact hgl) (by rw [s3]; exact fun v hv => HOK.out.2.1 v (List.mem_of_mem_take hv)) (by rw [s3, hlk]; omega)
        rw [HL3.out.1, HL3.out.2.1, HL3.out.2.2.1, s3, hlk] at h9
        exact h9.mono (fun e w' hh => ⟨hh.1, ⟨hh.2.os, hh.2.tape, hh.2.output, hh.2.size, hh.2.block⟩⟩)
      have HB9 : Hid (Below w.heap.size w w9) := hb9
      have lK9 : L.K < w9.heap.size := Nat.lt_of_lt_of_le G.Kl s1.core.fix.size
      have hkk : ((j : Int) == (j : Int)) = true := by simp
      clear s1 s2 s3 s4 s5 s6 s7 s8 hb9 hvm hve G HS9 HUNP HPLC
      go_wp2_with (first | (go_at_call 9; refine (HCK.out 0).mono ?_; rintro _ w10 ⟨rfl, hB10⟩; have j20 := Below.cells hB10 lK9 k20; have j21 := Below.cells hB10 lK9 k21; have j38 := Below.cells hB10 lK9 k38; have j23 := Below.cells hB10 lK9 k23; have HB10 : Hid (Below w9.heap.size w9 w10) := hB10; clear hB10))
      go_ret
      exact ⟨rfl, HB9.out.trans (HB10.out.mono HB9.out.size)⟩
end Go.Proofs.YbulkcoguDoor
