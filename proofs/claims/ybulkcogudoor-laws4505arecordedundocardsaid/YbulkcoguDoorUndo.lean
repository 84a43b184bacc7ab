import Derived.Test.YbulkcoguDoorKill
import Derived.LoopN
import Derived.Deep.Cut
import Derived.Laws.BitsAllLaws
namespace Go.Proofs.YbulkcoguDoor
open Go.RowKit Go.Deep Go.Shelf
set_option linter.unusedVariables false
set_option linter.unusedSimpArgs false

attribute [local go_sem] Oper.semAt_some

/-- What was taken out since: the bits of was that live lacks. -/
def gone (was live : Nat) : Nat := was &&& (18446744073709551615 - live)

theorem gone_bit {was live : Nat} (hw : was < 512) (hl : live < 512) (u : Nat) : (gone was live).testBit u = (was.testBit u && !live.testBit u) := by
  unfold gone
  rw [Nat.testBit_and]
  by_cases hu : u < 9
  · have e : 18446744073709551615 - live = 2 ^ 64 - (live + 1) := by omega
    rw [e, Nat.testBit_two_pow_sub_succ (by omega)]
    have : u < 64 := by omega
    simp [this]
  · rw [big_bit hw (by omega)]
    simp

theorem gone_lt {was live : Nat} (hw : was < 512) : gone was live < 512 := Nat.lt_of_le_of_lt Nat.and_le_left hw

/-- The waiting counts behind the nodes of l given back. -/
def given (add : Nat → Nat) (f : Nat → Int) (l : List Nat) : Nat → Int := l.foldl (fun f v => bump 1 f (ones 9 (add v))) f

theorem given_snoc (add : Nat → Nat) (f : Nat → Int) (l : List Nat) (v : Nat) : given add f (l ++ [v]) = bump 1 (given add f l) (ones 9 (add v)) := by simp [given]

theorem given_bound (add : Nat → Nat) : ∀ (l : List Nat) (f : Nat → Int) (u : Nat), f u - 9 * l.length ≤ given add f l u ∧ given add f l u ≤ f u + 9 * l.length := by
  intro l
  induction l with
  | nil => intro f u; simp [given]
  | cons v l ih =>
    intro f u
    show _ ≤ given add (bump 1 f (ones 9 (add v))) l u ∧ given add (bump 1 f (ones 9 (add v))) l u ≤ _
    have h1 := ih (bump 1 f (ones 9 (add v))) u
    have h2 := bump_bound 1 (by omega) (ones 9 (add v)) f u
    have h3 : (ones 9 (add v)).length ≤ 9 := by
      have := List.length_filter_le (fun u => (add v).testBit u) (List.range 9)
      simpa [ones] using this
    simp only [List.length_cons]
    omega

/-- What undo does. -/
structure Undone (L : Lay) (t0 : List Nat) (was : Nat) (st st' : St) : Prop where
  live : st'.live = was
  wt : st'.wt = given L.add st.wt (ones 9 (gone was st.live))
  tr : st'.tr = t0
  taken : st'.taken ≤ st.taken + 20
  lf : st'.lf = st.lf
  pl : st'.pl = st.pl
  mks : st'.mks = st.mks
  ems : st'.ems = st.ems
  rc : st'.rc = st.rc
  pc : st'.pc = st.pc
  vp : st'.vp = st.vp
  vm : st'.vm = st.vm
  ve : st'.ve = st.ve
  fo : st'.fo = st.fo

/-- The marks that the ranges over a function leave. -/
def marks (Ds : List Nat) : List Deferred := Ds.map fun D => { target := .collected D, args := #[] }

/-- The frame at the head of the inner loop. -/
def Fr (K T bx cb x : Nat) (ds : List Deferred) (a : Act) : Prop :=
  ∃ u : Nat → Value, a = { tmps := #[u 0, .int .i64 (T : Nat), .pointer (some ⟨bx, 0, none⟩), u 3, .pointer (some ⟨K, 22, none⟩), .int .i64 (T : Nat), .pointer (some ⟨cb, 0, none⟩), u 7, u 8, .int .i64 0, .int .u64 (x : Nat), u 11, u 12, u 13, u 14, u 15, u 16, u 17, u 18, u 19, u 20, u 21, u 22, u 23, u 24, u 25, u 26, u 27, u 28, u 29, u 30, u 31, u 32, u 33, u 34, u 35, u 36, u 37, u 38, u 39, u 40, u 41, u 42, u 43, u 44, u 45, u 46, u 47, u 48, u 49, u 50, u 51, u 52, u 53, u 54, u 55, u 56, u 57, u 58, u 59, u 60, u 61, u 62, u 63, u 64, u 65, u 66, u 67, u 68, u 69, u 70, u 71, u 72, u 73, u 74, u 75, u 76, u 77, u 78, u 79, u 80, u 81, u 82, u 83, u 84, u 85, u 86, u 87, u 88, u 89, u 90, u 91, u 92, u 93, u 94, u 95, u 96, u 97, u 98, u 99, u 100, u 101, u 102, u 103, u 104, u 105, u 106, u 107, u 108, u 109, u 110, u 111, u 112, u 113, u 114, u 115, u 116, u 117, u 118, u 119, u 120, u 121, u 122, u 123, u 124, u 125, u 126, u 127, u 128, u 129, u 130, u 131, u 132, u 133, u 134, u 135, u 136, u 137, u 138, u 139, u 140, u 141, u 142, u 143, u 144, u 145, u 146, u 147, u 148, u 149], defers := ds }

theorem Fr.mk (K T bx cb x : Nat) (ds : List Deferred) (u0 u3 u7 u8 u11 u12 u13 u14 u15 u16 u17 u18 u19 u20 u21 u22 u23 u24 u25 u26 u27 u28 u29 u30 u31 u32 u33 u34 u35 u36 u37 u38 u39 u40 u41 u42 u43 u44 u45 u46 u47 u48 u49 u50 u51 u52 u53 u54 u55 u56 u57 u58 u59 u60 u61 u62 u63 u64 u65 u66 u67 u68 u69 u70 u71 u72 u73 u74 u75 u76 u77 u78 u79 u80 u81 u82 u83 u84 u85 u86 u87 u88 u89 u90 u91 u92 u93 u94 u95 u96 u97 u98 u99 u100 u101 u102 u103 u104 u105 u106 u107 u108 u109 u110 u111 u112 u113 u114 u115 u116 u117 u118 u119 u120 u121 u122 u123 u124 u125 u126 u127 u128 u129 u130 u131 u132 u133 u134 u135 u136 u137 u138 u139 u140 u141 u142 u143 u144 u145 u146 u147 u148 u149 : Value) : Fr K T bx cb x ds { tmps := #[u0, .int .i64 (T : Nat), .pointer (some ⟨bx, 0, none⟩), u3, .pointer (some ⟨K, 22, none⟩), .int .i64 (T : Nat), .pointer (some ⟨cb, 0, none⟩), u7, u8, .int .i64 0, .int .u64 (x : Nat), u11, u12, u13, u14, u15, u16, u17, u18, u19, u20, u21, u22, u23, u24, u25, u26, u27, u28, u29, u30, u31, u32, u33, u34, u35, u36, u37, u38, u39, u40, u41, u42, u43, u44, u45, u46, u47, u48, u49, u50, u51, u52, u53, u54, u55, u56, u57, u58, u59, u60, u61, u62, u63, u64, u65, u66, u67, u68, u69, u70, u71, u72, u73, u74, u75, u76, u77, u78, u79, u80, u81, u82, u83, u84, u85, u86, u87, u88, u89, u90, u91, u92, u93, u94, u95, u96, u97, u98, u99, u100, u101, u102, u103, u104, u105, u106, u107, u108, u109, u110, u111, u112, u113, u114, u115, u116, u117, u118, u119, u120, u121, u122, u123, u124, u125, u126, u127, u128, u129, u130, u131, u132, u133, u134, u135, u136, u137, u138, u139, u140, u141, u142, u143, u144, u145, u146, u147, u148, u149], defers := ds } := by
  obtain ⟨d, hd⟩ : ∃ d : Value, d = .int .i64 0 := ⟨_, rfl⟩
  exact ⟨fun i => ([u0, d, d, u3, d, d, d, u7, u8, d, d, u11, u12, u13, u14, u15, u16, u17, u18, u19, u20, u21, u22, u23, u24, u25, u26, u27, u28, u29, u30, u31, u32, u33, u34, u35, u36, u37, u38, u39, u40, u41, u42, u43, u44, u45, u46, u47, u48, u49, u50, u51, u52, u53, u54, u55, u56, u57, u58, u59, u60, u61, u62, u63, u64, u65, u66, u67, u68, u69, u70, u71, u72, u73, u74, u75, u76, u77, u78, u79, u80, u81, u82, u83, u84, u85, u86, u87, u88, u89, u90, u91, u92, u93, u94, u95, u96, u97, u98, u99, u100, u101, u102, u103, u104, u105, u106, u107, u108, u109, u110, u111, u112, u113, u114, u115, u116, u117, u118, u119, u120, u121, u122, u123, u124, u125, u126, u127, u128, u129, u130, u131, u132, u133, u134, u135, u136, u137, u138, u139, u140, u141, u142, u143, u144, u145, u146, u147, u148, u149] : List Value).getD i d, by kernel_rfl⟩

structure Marked (L : Lay) (Ds : List Nat) (W : World) : Prop where
  at_ : ∀ D ∈ Ds, L.w1.heap.size ≤ D ∧ W.heap[D]? = some (.deferred (some []))
  nd : Ds.Nodup

theorem leaves_all {L : Lay} (G : Good L) {fn : Func} {tmps : Array Value} {R : Ending → World → Prop} {s : St} : ∀ (Ds : List Nat) (W : World), Marked L Ds W → Sta L s W →
    (∀ W', Sta L s W' → LeavesInM Fence.wide 9 Ybad.prog fn tmps R [] .returning W') → LeavesInM Fence.wide 9 Ybad.prog fn tmps R (marks Ds) .returning W := by
  intro Ds
  induction Ds with
  | nil => intro W _ hs hfin; exact hfin W hs
  | cons D Ds ih =>
    intro W hM hs hfin
    have hD := hM.at_ D (by simp)
    have hnd := List.nodup_cons.1 hM.nd
    refine ⟨by simp, .inl ⟨_, _, rfl, run_takeDeferred hD.2, ?_⟩⟩
    refine ih _ ⟨fun E hE => ?_, hnd.2⟩ (hs.turn G (grownBy_putObj' W D (.deferred none)) (fun r e => by cases e; exact ⟨hD.1, _, hD.2, rfl⟩)) hfin
    have hE2 := hM.at_ E (by simp [hE])
    refine ⟨hE2.1, ?_⟩
    have hg := grownBy_putObj' W D (.deferred none)
    rw [hg.block E (Array.getElem?_eq_some_iff.1 hE2.2).1 (fun e => by cases e; exact hnd.1 hE)]
    exact hE2.2

/-- What the inner loop holds. -/
structure Inn (L : Lay) (T bx cb x0 : Nat) (s2 : St) (n : Nat) (a : Act) (W : World) (Ds : List Nat) (x : Nat) (pre : List Nat) : Prop where
  fr : Fr L.K T bx cb x (marks Ds) a
  lt : x < 512
  cut : ones 9 x0 = pre ++ ones 9 x
  num : n = (ones 9 x).length
  sta : Sta L { s2 with wt := given L.add s2.wt pre } W
  mkd : Marked L Ds W

set_option maxRecDepth 100000 in
set_option maxHeartbeats 8000000 in
theorem undo_any {L : Lay} (G : Good L) {st : St} {w : World} (h : Sta L st w) (hrc : st.rc = true) (t0 : List Nat) (was : Nat) (htr : st.tr = t0 ++ [was]) (hl : t0.length ≤ 90) (hwas : was < 2 ^ L.n) (hlv : st.live < 512) (htk : st.taken ≤ 900000) (hwt : ∀ u, u < L.n → -900 ≤ st.wt u ∧ st.wt u ≤ 900) :
    Calls Ybad.prog 17 #[.pointer (some ⟨L.K, 0, none⟩), .int .i64 t0.length] w fun e w' => e = .returned (.tuple #[]) ∧ ∃ st', Sta L st' w' ∧ Undone L t0 was st st' := by
  have hn : L.n ≤ 9 := by have := G.m6; have := G.s3; unfold Lay.n; omega
  have hw5 : was < 512 := Nat.lt_of_lt_of_le hwas (Nat.pow_le_pow_right (n := 2) (by omega) hn)
  have hch : st.ch = true := by
    cases hc : st.ch with
    | true => rfl
    | false =>
      have := (h.rest.t0 hc).2
      rw [htr] at this
      simp at this
  have HS : Hid (Sta L st w) := h
  have HWT : Hid (∀ u, u < L.n → -900 ≤ st.wt u ∧ st.wt u ≤ 900) := hwt
  have HTR : Hid (st.tr = t0 ++ [was]) := htr
  have HWAS : Hid (was < 2 ^ L.n) := hwas
  have HRC : Hid (st.rc = true) := hrc
  -- the box of k
  obtain ⟨bx, hbx⟩ : ∃ bx, bx = w.heap.size := ⟨_, rfl⟩
  obtain ⟨wb, hwb⟩ : ∃ wb, wb = w.alloc (.cells #[Value.pointer (some ⟨L.K, 0, none⟩)] 25) := ⟨_, rfl⟩
  have hB : Below w.heap.size w wb := by rw [hwb]; exact (Below.refl _ w).alloc (Nat.le_refl _) _
  have hbo : wb.heap[bx]? = some (.cells #[Value.pointer (some ⟨L.K, 0, none⟩)] 25 (0, 0)) := by rw [hwb, hbx]; exact heap_alloc_new w _
  have hS0 := h.keepNew G hB bx _ 25 hbo (by omega)
  obtain ⟨st0, hst0⟩ : ∃ s : St, s = { st with col := recol st.col bx 7, fo := fun k => if k = bx then some (#[Value.pointer (some ⟨L.K, 0, none⟩)], 25) else st.fo k } := ⟨_, rfl⟩
  rw [← hst0] at hS0
  have HST0 : Hid (st0 = { st with col := recol st.col bx 7, fo := fun k => if k = bx then some (#[Value.pointer (some ⟨L.K, 0, none⟩)], 25) else st.fo k }) := hst0
  have HS0 : Hid (Sta L st0 wb) := hS0
  have HBOX : Hid (∀ (s : St) (W : World), Sta L s W → s.fo bx = some (#[Value.pointer (some ⟨L.K, 0, none⟩)], 25) → W.cell? ⟨bx, 0, none⟩ = some (.pointer (some ⟨L.K, 0, none⟩))) := fun s W hs he => cell_in (hs.rest.fo bx _ he) rfl
  have efo : st0.fo bx = some (#[Value.pointer (some ⟨L.K, 0, none⟩)], 25) := by rw [hst0]; simp
  have HFO : Hid (st0.fo bx = some (#[Value.pointer (some ⟨L.K, 0, none⟩)], 25)) := efo
  have etk : st0.taken = st.taken := by rw [hst0]
  have etr : st0.tr = st.tr := by rw [hst0]
  have ech : st0.ch = true := by rw [hst0]; exact hch
  have htk0 : st0.taken ≤ 900000 := by omega
  have q0 := HBOX.out st0 wb hS0 efo
  have k2 := hS0.core.fix.k G (o := 2) rfl
  have k23 := hS0.core.kd 23 _ rfl
  obtain ⟨N1, hN1⟩ : ∃ x, st0.tr.length = x := ⟨_, rfl⟩
  rw [hN1] at k23
  have HN1 : Hid (st0.tr.length = N1) := hN1
  obtain ⟨T, hT⟩ : ∃ x, t0.length = x := ⟨_, rfl⟩
  have hNT : N1 = T + 1 := by rw [← hN1, etr, htr, ← hT]; simp
  have hNI : (N1 : Int) - (T : Int) = 1 := by omega
  have hNI1 : (N1 : Int) - 1 = (T : Int) := by omega
  have hT90 : T ≤ 90 := by omega
  have HT : Hid (t0.length = T) := hT
  have lK : L.K < wb.heap.size := Nat.lt_of_lt_of_le G.Kl hS0.core.fix.size
  have lS : L.S < wb.heap.size := Nat.lt_of_lt_of_le G.Sl hS0.core.fix.size
  have HBX : Hid (bx = w.heap.size) := hbx
  rw [hT]
  clear h hS0 hst0 hB hbo hwt htr hwas hrc etk etr efo hN1 hT hl htk hNT
  have HSTEP : Hid (∀ W, Calls Ybad.prog 25 #[.int .i64 1] W fun e w' => e = .returned (.int .i64 1) ∧ w' = W) := fun W => setSteps_any 1 (by omega) W
  have hw1 : IntKind.i64.wrap (1 : Int) = 1 := rfl
  refine calls_marks Ybad.func17 rfl ?_
  simp only [Ybad.ntmps17, List.size_toArray, List.length_cons, List.length_nil, Nat.reduceAdd, Nat.reduceSub, Array.replicate_succ, Array.replicate_zero, List.push_toArray, List.append_toArray, List.nil_append, List.cons_append]
  go_wp2
  rw [← hwb, ← hbx]
  clear hwb hbx
  go_region_held3 (fun w' => w'.cell? ⟨bx, 0, none⟩ = some (.pointer (some ⟨L.K, 0, none⟩)) ∧ w'.cell? ⟨L.K, 2, none⟩ = some (.pointer (some ⟨L.S, 0, none⟩)) ∧ w'.cell? ⟨L.K, 23, none⟩ = some (.int .i64 N1)) (go_keep)
    (first | (go_at_call 25; go_loud (refine (HSTEP.out _).mono ?_; rintro _ wf ⟨rfl, hwf⟩; rw [hwf]; clear hwf)) | (go_at_call 20; refine (take_sta G (HS0.out.drewN 1) (by show st0.taken ≤ 10000000; omega) 1 1 rfl (by omega)).mono ?_; rintro _ w1 ⟨rfl, hS1, hrest⟩; clear hrest; have r0 := HBOX.out _ w1 hS1 HFO.out; have j2 := hS1.core.fix.k G (o := 2) rfl; have j23 : w1.cell? ⟨L.K, 23, none⟩ = some (.int .i64 N1) := (by rw [← HN1.out]; exact hS1.core.kd 23 _ rfl); have HS1 : Hid _ := hS1; clear hS1))
  obtain ⟨st1, hst1⟩ : ∃ s : St, s = { st0 with taken := st0.taken + 1 } := ⟨_, rfl⟩
  have HST1 : Hid (st1 = { st0 with taken := st0.taken + 1 }) := hst1
  have HSA : Hid (Sta L st1 w1) := by rw [hst1]; exact HS1.out
  have eFO1 : Hid (st1.fo bx = some (#[Value.pointer (some ⟨L.K, 0, none⟩)], 25)) := by rw [hst1]; exact HFO.out
  have ech1 : st1.ch = true := by rw [hst1]; exact ech
  have etr1 : st1.tr = t0 ++ [was] := by rw [hst1]; show st0.tr = _; rw [HST0.out]; exact HTR.out
  obtain ⟨evc, hkc, lbC, ccC⟩ := HSA.out.rest.tc ech1
  obtain ⟨lbT, cur, hcur, hcs, hcel⟩ := HSA.out.rest.tb ech1
  obtain ⟨hc1, hc2⟩ := hcel T (by rw [etr1]; simp [HT.out])
  have k22 : w1.cell? ⟨L.K, 22, none⟩ = some (.slice (some ⟨st1.bC, 0, none⟩) 1 st1.kc) := by have := HSA.out.core.kd 22 _ rfl; rw [this, evc]
  have e5 : st1.tr[T]'(by rw [etr1]; simp [HT.out]) = was := by simp only [etr1]; rw [List.getElem_append_right (by rw [HT.out]; omega)]; simp [HT.out]
  rw [e5] at hc2
  obtain ⟨bC, hbC⟩ : ∃ x, st1.bC = x := ⟨_, rfl⟩
  obtain ⟨bT, hbT⟩ : ∃ x, st1.bT = x := ⟨_, rfl⟩
  obtain ⟨kc, hkc2⟩ : ∃ x, st1.kc = x := ⟨_, rfl⟩
  rw [hbC, hbT] at ccC
  rw [hbC] at k22 lbC
  rw [hbT] at hcur lbT
  rw [hkc2] at k22 hkc
  have cT1 : w1.cell? ⟨bT, T * 2, none⟩ = some (.int .i64 (2 * L.n : Nat)) := by rw [Nat.mul_comm]; exact cell_in hcur hc1
  have cT2 : w1.cell? ⟨bT, T * 2 + 1, none⟩ = some (.int .u64 (was : Nat)) := by rw [Nat.mul_comm]; exact cell_in hcur hc2
  obtain ⟨N2, hN2⟩ : ∃ x, 2 * L.n = x := ⟨_, rfl⟩
  have HN2 : Hid (2 * L.n = N2) := hN2
  rw [hN2] at cT1
  have hN218 : N2 ≤ 18 := by omega
  have hT4 : (T : Int).tdiv 4096 = 0 := Int.tdiv_eq_zero_of_lt (by omega) (by omega)
  have hT5 : (T : Int).tmod 4096 = (T : Int) := Int.tmod_eq_of_lt (by omega) (by omega)
  clear evc hcel hc1 hc2 hcur hcs e5 hbC hbT hkc2 etr1 hst1 HS1 HSTEP hN2 wf q0 k2 k23 j2 HS0
  clear cur
  go_wp2_with (fail)
  refine wp_loop_rounds 2 ?_
  rw [rounds_succ]
  go_upto_region 7 with (fail)
  obtain ⟨w2, hw2⟩ : ∃ w2, w2 = w1.alloc (Obj.cells #[Value.int IntKind.i64 (N2 : Nat), Value.int IntKind.u64 (was : Nat)] 72) := ⟨_, rfl⟩
  obtain ⟨cb, hcb⟩ : ∃ cb, cb = w1.heap.size := ⟨_, rfl⟩
  have hB2 : Below w1.heap.size w1 w2 := by rw [hw2]; exact (Below.refl _ w1).alloc (Nat.le_refl _) _
  have hbo2 : w2.heap[cb]? = some (.cells #[Value.int IntKind.i64 (N2 : Nat), Value.int IntKind.u64 (was : Nat)] 72 (0, 0)) := by rw [hw2, hcb]; exact heap_alloc_new w1 _
  have hS2 := HSA.out.keepNew G hB2 cb _ 72 hbo2 (by omega)
  obtain ⟨st2, hst2⟩ : ∃ s : St, s = { st1 with col := recol st1.col cb 7, fo := fun k => if k = cb then some (#[Value.int IntKind.i64 (N2 : Nat), Value.int IntKind.u64 (was : Nat)], 72) else st1.fo k } := ⟨_, rfl⟩
  rw [← hst2] at hS2
  have HST2 : Hid (st2 = { st1 with col := recol st1.col cb 7, fo := fun k => if k = cb then some (#[Value.int IntKind.i64 (N2 : Nat), Value.int IntKind.u64 (was : Nat)], 72) else st1.fo k }) := hst2
  have HCB : Hid (∀ (s : St) (W : World), Sta L s W → s.fo cb = some (#[Value.int IntKind.i64 (N2 : Nat), Value.int IntKind.u64 (was : Nat)], 72) → W.cell? ⟨cb, 0, none⟩ = some (.int .i64 (N2 : Nat)) ∧ W.cell? ⟨cb, 1, none⟩ = some (.int .u64 (was : Nat))) := fun s W hs he => ⟨cell_in (hs.rest.fo cb _ he) rfl, cell_in (hs.rest.fo cb _ he) rfl⟩
  have hbc : bx ≠ cb := by
    have h1 := (Array.getElem?_eq_some_iff.1 (HSA.out.rest.fo bx _ eFO1.out)).1
    omega
  have HCB2 : Hid (∀ b, b < w.heap.size → b ≠ cb) := fun b hb => by
    have h1 := (Array.getElem?_eq_some_iff.1 (HSA.out.rest.fo bx _ eFO1.out)).1
    have := HBX.out
    omega
  have HF2 : Hid (st2.fo cb = some (#[Value.int IntKind.i64 (N2 : Nat), Value.int IntKind.u64 (was : Nat)], 72)) := by rw [hst2]; exact if_pos rfl
  have HF1 : Hid (st2.fo bx = some (#[Value.pointer (some ⟨L.K, 0, none⟩)], 25)) := by rw [hst2]; show (if bx = cb then _ else st1.fo bx) = _; rw [if_neg hbc]; exact eFO1.out
  have HS2 : Hid (Sta L st2 w2) := hS2
  have r2 := HBOX.out _ w2 hS2 HF1.out
  obtain ⟨c1, c2⟩ := HCB.out _ w2 hS2 HF2.out
  obtain ⟨g1, g2, g3, g4, g6, g7, g9, glv, gs, gl, gf, lK2, lS2⟩ := hS2.look G
  have elv : st2.live = st.live := by rw [hst2]; show st1.live = _; rw [HST1.out]; show st0.live = _; rw [HST0.out]
  rw [HN2.out] at g4 g7 glv
  rw [elv] at glv
  obtain ⟨lv, hlv2⟩ : ∃ x, st.live = x := ⟨_, rfl⟩
  have HLV : Hid (st.live = lv) := hlv2
  rw [hlv2] at glv hlv
  obtain ⟨x0, hx0⟩ : ∃ x, gone was lv = x := ⟨_, rfl⟩
  have HX0 : Hid (gone was lv = x0) := hx0
  have hx5 : x0 < 512 := by rw [← hx0]; exact gone_lt hw5
  have HX5 : Hid (x0 < 512) := hx5
  have hxb : bits .andNot .u64 (was : Int) (lv : Int) = (x0 : Int) := by rw [← hx0]; exact u64_andNot_nat was lv (by omega) (by omega)
  have hd1 : (N2 : Int).tdiv 1 = (N2 : Int) := by simp
  have hm1 : (N2 : Int).tmod 1 = 0 := by simp
  have hdq : decide ((N2 : Int) = (N2 : Int)) = true := by simp
  rw [← hcb]
  rw [show (w1.alloc (Obj.cells #[Value.int IntKind.i64 (N2 : Int), Value.int IntKind.u64 (was : Int)] 72)) = w2 from hw2.symm]
  clear hw2 hcb hB2 hbo2 hst2 elv hlv2 hx0 hS2 ech1 cT1 cT2 hT4 hT5 k22 ccC lbT lbC hkc r0 j23 gs gl gf g3 g2 g6
  go_quiet (fail)
  go_upto_region 8 with (fail)
  go_quiet (fail)
  go_upto_region 11 with (fail)
  refine wp_loop_ghost_k (fun n a W => ∃ Ds x pre, Inn L T bx cb x0 st2 n a W Ds x pre) (ones 9 x0).length ⟨[], x0, [], ⟨Fr.mk .., hx5, rfl, rfl, HS2.out.drewN _, ⟨fun D hD => (by cases hD), List.nodup_nil⟩⟩⟩ ?_
  clear hx5 hxb g1 g4 g7 g9 glv c1 c2 r2 lK2 lS2 hdq hd1 hm1 HS2
  rintro n a W ⟨Ds, x, pre, ⟨⟨u, rfl⟩, hx5, hcut, hnum, hsta, hmk⟩⟩ J K hJ hK
  have HIN : Hid (ones 9 x0 = pre ++ ones 9 x ∧ n = (ones 9 x).length ∧ Marked L Ds W) := ⟨hcut, hnum, hmk⟩
  have HSI : Hid (Sta L { st2 with wt := given L.add st2.wt pre } W) := hsta
  have HJ : Hid (∀ k a' w', (∃ Ds x pre, Inn L T bx cb x0 st2 k a' w' Ds x pre) → J k a' w') := hJ
  have HK : Hid (∀ a' w', Handed J n a' w' → K a' w') := hK
  clear hcut hnum hmk hsta hJ hK
  by_cases hz : x = 0
  · subst hz
    go_upto_region 21 with (fail)
    have r2 := HBOX.out _ W HSI.out HF1.out
    obtain ⟨c1, c2⟩ := HCB.out _ W HSI.out HF2.out
    obtain ⟨g1, g2, g3, g4, g6, g7, g9, glv, gs, gl, gf, lK2, lS2⟩ := HSI.out.look G
    have fB : W.frozen? ⟨L.bB, N2, none⟩ = false := HSI.out.core.fix.fr G (b := L.bB) (by simp [Lay.Spec]) _
    rw [HN2.out] at g4 g7 glv
    obtain ⟨M, hM⟩ : ∃ M, N2 + 1 = M := ⟨_, rfl⟩
    rw [hM] at g4
    have hMN : N2 < M := by omega
    have hI0 : (0 : Int) ≤ (N2 : Int) := by omega
    have hI1 : (N2 : Int) < (M : Int) := by omega
    have hI2 : decide ((N2 : Int) < (M : Int)) = true := by simp; omega
    have hw : IntKind.i64.wrap (N2 : Int) = N2 := by rw [IntKind.wrap_i64]; omega
    clear hM g1 g2 g3 g6 g7 g9 gs gl gf lS2 HK HJ
    refine wp_region_noPanic ?_
    refine wp_region_L (fun w' => w'.cell? ⟨bx, 0, none⟩ = some (.pointer (some ⟨L.K, 0, none⟩)) ∧ w'.cell? ⟨L.K, 4, none⟩ = some (.slice (some ⟨L.bB, 0, none⟩) M M) ∧ w'.cell? ⟨cb, 0, none⟩ = some (.int .i64 (N2 : Nat)) ∧ w'.cell? ⟨cb, 1, none⟩ = some (.int .u64 (was : Nat))) 9 10 (by kernel_rfl) (by kernel_rfl) ?_
    have HSS : Hid ((fun w' : World => w'.cell? ⟨bx, 0, none⟩ = some (.pointer (some ⟨L.K, 0, none⟩)) ∧ w'.cell? ⟨L.K, 4, none⟩ = some (.slice (some ⟨L.bB, 0, none⟩) M M) ∧ w'.cell? ⟨cb, 0, none⟩ = some (.int .i64 (N2 : Nat)) ∧ w'.cell? ⟨cb, 1, none⟩ = some (.int .u64 (was : Nat))) W.drew) := ⟨r2, g4, c1, c2⟩
    refine wpU_take (i := 0) (v := ?_) rfl (by kernel_rfl) (by kernel_rfl) (by kernel_rfl) (by kernel_rfl) (fun _ _ _ h => h) (by rfl) ?_ HSS.out ?_
    rotate_left
    · (intro wS hwS; (try dsimp only at hwS); go_simp; try with_reducible rfl)
    simp only [Act.put, List.getElem_toArray, List.getElem_cons_zero, List.getElem_cons_succ, List.setIfInBounds_toArray, List.set_cons_zero, List.set_cons_succ]
    refine wpU_take (i := 1) (v := ?_) rfl (by kernel_rfl) (by kernel_rfl) (by kernel_rfl) (by kernel_rfl) (fun _ _ _ h => h) (by rfl) ?_ HSS.out ?_
    rotate_left
    · (intro wS hwS; (try dsimp only at hwS); go_simp; try with_reducible rfl)
    simp only [Act.put, List.getElem_toArray, List.getElem_cons_zero, List.getElem_cons_succ, List.setIfInBounds_toArray, List.set_cons_zero, List.set_cons_succ]
    refine wpU_take (i := 2) (v := ?_) rfl (by kernel_rfl) (by kernel_rfl) (by kernel_rfl) (by kernel_rfl) (fun _ _ _ h => h) (by rfl) ?_ HSS.out ?_
    rotate_left
    · (intro wS hwS; (try dsimp only at hwS); go_simp; try with_reducible rfl)
    simp only [Act.put, List.getElem_toArray, List.getElem_cons_zero, List.getElem_cons_succ, List.setIfInBounds_toArray, List.set_cons_zero, List.set_cons_succ]
    refine wpU_take (i := 3) (v := ?_) rfl (by kernel_rfl) (by kernel_rfl) (by kernel_rfl) (by kernel_rfl) (fun _ _ _ h => h) (by rfl) ?_ HSS.out ?_
    rotate_left
    · (intro wS hwS; (try dsimp only at hwS); go_simp; try with_reducible rfl)
    simp only [Act.put, List.getElem_toArray, List.getElem_cons_zero, List.getElem_cons_succ, List.setIfInBounds_toArray, List.set_cons_zero, List.set_cons_succ]
    refine wpU_take (i := 4) (v := ?_) rfl (by kernel_rfl) (by kernel_rfl) (by kernel_rfl) (by kernel_rfl) (fun _ _ _ h => h) (by rfl) ?_ HSS.out ?_
    rotate_left
    · (intro wS hwS; (try dsimp only at hwS); go_simp; try with_reducible rfl)
    simp only [Act.put, List.getElem_toArray, List.getElem_cons_zero, List.getElem_cons_succ, List.setIfInBounds_toArray, List.set_cons_zero, List.set_cons_succ]
    refine wpU_take (i := 5) (v := ?_) rfl (by kernel_rfl) (by kernel_rfl) (by kernel_rfl) (by kernel_rfl) (fun _ _ _ h => h) (by rfl) ?_ HSS.out ?_
    rotate_left
    · (intro wS hwS; (try dsimp only at hwS); go_simp; try with_reducible rfl)
    simp only [Act.put, List.getElem_toArray, List.getElem_cons_zero, List.getElem_cons_succ, List.setIfInBounds_toArray, List.set_cons_zero, List.set_cons_succ]
    refine wpU_take (i := 6) (v := ?_) rfl (by kernel_rfl) (by kernel_rfl) (by kernel_rfl) (by kernel_rfl) (fun _ _ _ h => h) (by rfl) ?_ HSS.out ?_
    rotate_left
    · (intro wS hwS; (try dsimp only at hwS); go_simp; try with_reducible rfl)
    simp only [Act.put, List.getElem_toArray, List.getElem_cons_zero, List.getElem_cons_succ, List.setIfInBounds_toArray, List.set_cons_zero, List.set_cons_succ]
    refine wpU_take (i := 7) (v := ?_) rfl (by kernel_rfl) (by kernel_rfl) (by kernel_rfl) (by kernel_rfl) (fun _ _ _ h => h) (by rfl) ?_ HSS.out ?_
    rotate_left
    · (intro wS hwS; (try dsimp only at hwS); go_simp; try with_reducible rfl)
    simp only [Act.put, List.getElem_toArray, List.getElem_cons_zero, List.getElem_cons_succ, List.setIfInBounds_toArray, List.set_cons_zero, List.set_cons_succ]
    refine wpU_take (i := 8) (v := ?_) rfl (by kernel_rfl) (by kernel_rfl) (by kernel_rfl) (by kernel_rfl) (fun _ _ _ h => h) (by rfl) ?_ HSS.out ?_
    rotate_left
    · (intro wS hwS; (try dsimp only at hwS); go_simp; try with_reducible rfl)
    simp only [Act.put, List.getElem_toArray, List.getElem_cons_zero, List.getElem_cons_succ, List.setIfInBounds_toArray, List.set_cons_zero, List.set_cons_succ]
    refine wpL_one (i := 9) (by kernel_rfl) rfl (fun K hK => ?_)
    simp only [List.getElem_toArray, List.getElem_cons_zero, List.getElem_cons_succ]
    go_simp
    refine hK.out _ _ (fun h => absurd rfl h) ?_
    clear hK K
    refine wpL_done (by kernel_rfl) ?_ _
    refine NoPanic.normal ?_
    have hS5 := HSI.out.setLive G was
    rw [HN2.out] at hS5
    replace hS5 := hS5.drewN 1
    obtain ⟨w5, hw5'⟩ : ∃ w5, w5 = (W.setCell ⟨L.bB, N2, none⟩ (.int .u64 (was : Nat))).drew := ⟨_, rfl⟩
    rw [show (W.setCell ⟨L.bB, N2, none⟩ (.int .u64 (was : Nat))).drewN 1 = w5 from hw5'.symm] at hS5
    have hM5 : Marked L Ds w5 := by
      refine ⟨fun D hD => ⟨(HIN.out.2.2.at_ D hD).1, ?_⟩, HIN.out.2.2.nd⟩
      rw [hw5']
      exact (KeepsOthers.setCell W _ _).same D _ (HIN.out.2.2.at_ D hD).2 rfl
    have HS5 : Hid (Sta L { st2 with wt := given L.add st2.wt pre, live := was } w5) := hS5
    have HM5 : Hid (Marked L Ds w5) := hM5
    have k23 := hS5.core.kd 23 _ rfl
    have f23 : w5.frozen? ⟨L.K, 23, none⟩ = false := hS5.core.fix.fr G (b := L.K) (by simp [Lay.Spec]) _
    have lK5 : L.K < w5.heap.size := (hS5.look G).2.2.2.2.2.2.2.2.2.2.2.1
    rw [← hw5']
    have hT1 : IntKind.i64.wrap ((T : Int) - 1) = (T : Int) - 1 := by rw [IntKind.wrap_i64]; omega
    have hT2 : ¬ ((T : Int) ≤ (T : Int) - 1) := by omega
    have hT3 : decide ((T : Int) ≤ (T : Int) - 1) = false := by simp; omega
    clear hw5' hS5 hM5 HSS HSI r2 c1 c2 g4 fB hMN hI0 hI1 hI2 hw glv
    go_wp2_with (fail)
    rw [rounds_succ]
    go_wp2_with (fail)
    have E0 := HST0.out
    have E1 := HST1.out
    have E2 := HST2.out
    have etr2 : st2.tr = t0 ++ [was] := by rw [E2]; show st1.tr = _; rw [E1]; show st0.tr = _; rw [E0]; exact HTR.out
    have hlen : T ≤ st2.tr.length := by rw [etr2]; simp [HT.out]
    have hS6 := HS5.out.setLen G T hlen
    refine leaves_all G Ds _ ⟨fun D hD => ⟨(HM5.out.at_ D hD).1, (KeepsOthers.setCell _ _ _).same D _ (HM5.out.at_ D hD).2 rfl⟩, HM5.out.nd⟩ hS6 ?_
    intro W' hW'
    refine ⟨_, results_none rfl _ _ _, rfl, ?_⟩
    refine ⟨_, hW'.less st.fo (fun b o hb => ?_), ?_⟩
    · have hlt : b < w.heap.size := (Array.getElem?_eq_some_iff.1 (HS.out.rest.fo b o hb)).1
      have hb1 : b ≠ bx := by have := HBX.out; omega
      have hb2 : b ≠ cb := HCB2.out b hlt
      show st2.fo b = some o
      rw [E2]
      show (if b = cb then _ else st1.fo b) = some o
      rw [if_neg hb2, E1]
      show st0.fo b = some o
      rw [E0]
      show (if b = bx then _ else st.fo b) = some o
      rw [if_neg hb1]
      exact hb
    · have hpre : pre = ones 9 x0 := by have h := HIN.out.1; rw [show ones 9 0 = [] from by decide, List.append_nil] at h; exact h.symm
      refine ⟨rfl, ?_, ?_, ?_, ?_, ?_, ?_, ?_, ?_, ?_, ?_, ?_, ?_, rfl⟩
      · show given L.add st2.wt pre = _
        rw [hpre, ← HX0.out, HLV.out]
        have : st2.wt = st.wt := by rw [E2]; show st1.wt = _; rw [E1]; show st0.wt = _; rw [E0]
        rw [this]
      · show st2.tr.take T = t0
        rw [etr2, ← HT.out]
        simp
      · show st2.taken ≤ _
        rw [E2]; show st1.taken ≤ _; rw [E1]; show st0.taken + 1 ≤ _; rw [E0]; show st.taken + 1 ≤ _; omega
      · show st2.lf = _
        rw [E2]; show st1.lf = _; rw [E1]; show st0.lf = _; rw [E0]
      · show st2.pl = _
        rw [E2]; show st1.pl = _; rw [E1]; show st0.pl = _; rw [E0]
      · show st2.mks = _
        rw [E2]; show st1.mks = _; rw [E1]; show st0.mks = _; rw [E0]
      · show st2.ems = _
        rw [E2]; show st1.ems = _; rw [E1]; show st0.ems = _; rw [E0]
      · show st2.rc = _
        rw [E2]; show st1.rc = _; rw [E1]; show st0.rc = _; rw [E0]
      · show st2.pc = _
        rw [E2]; show st1.pc = _; rw [E1]; show st0.pc = _; rw [E0]
      · show st2.vp = _
        rw [E2]; show st1.vp = _; rw [E1]; show st0.vp = _; rw [E0]
      · show st2.vm = _
        rw [E2]; show st1.vm = _; rw [E1]; show st0.vm = _; rw [E0]
      · show st2.ve = _
        rw [E2]; show st1.ve = _; rw [E1]; show st0.ve = _; rw [E0]
  · have hzI : ¬ ((x : Int) = 0) := by omega
    have hcI : ((x : Int) == 0) = false := by simp; omega
    go_upto_region 13 with (fail)
    have hxn : ∀ u ∈ ones 9 x0, u < L.n := fun u hu => by
      have hb := (ones_mem (show x0 < 512 from HX5.out) u).1 hu
      rw [← HX0.out, gone_bit hw5 hlv] at hb
      rcases Nat.lt_or_ge u L.n with h | h
      · exact h
      · rw [Nat.testBit_lt_two_pow (Nat.lt_of_lt_of_le HWAS.out (Nat.pow_le_pow_right (by omega) h))] at hb
        cases hb
    obtain ⟨hl1, hl2⟩ := ones_low hx5 hz
    obtain ⟨v, hv'⟩ : ∃ v, v = Lib.ctz 64 x := ⟨_, rfl⟩
    rw [← hv'] at hl1
    have hv : v < L.n := hxn v (by rw [HIN.out.1, hl1]; simp)
    have hv9 : v < 9 := by omega
    have ct : Hid (∀ W', TabAt 0 Lib.deBruijn64tab W' → Calls Ybad.prog 26 #[.int .u64 x] W' fun e w' => e = .returned (.int .i64 v) ∧ w' = W') := fun W' h' => by have := tz_any x (by omega) hz W' h'; rwa [← hv'] at this
    have HL1 : Hid (ones 9 x = v :: ones 9 (x &&& (x - 1)) ∧ x &&& (x - 1) < x) := ⟨hl1, hl2⟩
    have hland : bits BinOp.and IntKind.u64 (x : Int) ((x : Int) - 1) = ((x &&& (x - 1) : Nat) : Int) := by
      have := bits_and_u64_nat x (x - 1) (by omega) (by omega)
      rwa [show ((x - 1 : Nat) : Int) = (x : Int) - 1 by omega] at this
    have HTAB : Hid (∀ n, TabAt 0 Lib.deBruijn64tab (W.drewN n)) := fun n => (HSI.out.drewN n).core.fix.tab G
    have HFIX : Hid (∀ n, Fix L (W.drewN n)) := fun n => (HSI.out.drewN n).core.fix
    have r2 := HBOX.out _ W HSI.out HF1.out
    have hwv : IntKind.i64.wrap (v : Int) = (v : Int) := by rw [IntKind.wrap_i64]; omega
    have lbx : bx < W.heap.size := World.block_lt_of_cell? _ _ r2
    have hw0 : IntKind.i64.wrap (0 : Int) = 0 := rfl
    clear hl1 hl2 hv'
    refine wp_region_noPanic ?_
    refine wp_region_L (fun w' => w'.cell? ⟨bx, 0, none⟩ = some (.pointer (some ⟨L.K, 0, none⟩))) 7 8 (by kernel_rfl) (by kernel_rfl) ?_
    have HSS : Hid ((fun w' : World => w'.cell? ⟨bx, 0, none⟩ = some (.pointer (some ⟨L.K, 0, none⟩))) W.drew) := r2
    refine wpU_take (i := 0) (v := ?_) rfl (by kernel_rfl) (by kernel_rfl) (by kernel_rfl) (by kernel_rfl) (fun _ _ _ h => h) (by rfl) ?_ HSS.out ?_
    rotate_left
    · (intro wS hwS; (try dsimp only at hwS); go_simp; try with_reducible rfl)
    simp only [Act.put, List.getElem_toArray, List.getElem_cons_zero, List.getElem_cons_succ, List.setIfInBounds_toArray, List.set_cons_zero, List.set_cons_succ]
    refine wpU_take (i := 1) (v := ?_) rfl (by kernel_rfl) (by kernel_rfl) (by kernel_rfl) (by kernel_rfl) (fun _ _ _ h => h) (by rfl) ?_ HSS.out ?_
    rotate_left
    · (intro wS hwS; (try dsimp only at hwS); go_simp; try with_reducible rfl)
    simp only [Act.put, List.getElem_toArray, List.getElem_cons_zero, List.getElem_cons_succ, List.setIfInBounds_toArray, List.set_cons_zero, List.set_cons_succ]
    refine wpU_take (i := 2) (v := ?_) rfl (by kernel_rfl) (by kernel_rfl) (by kernel_rfl) (by kernel_rfl) (fun _ _ _ h => h) (by rfl) ?_ HSS.out ?_
    rotate_left
    · (intro wS hwS; (try dsimp only at hwS); go_simp; try with_reducible rfl)
    simp only [Act.put, List.getElem_toArray, List.getElem_cons_zero, List.getElem_cons_succ, List.setIfInBounds_toArray, List.set_cons_zero, List.set_cons_succ]
    refine wpU_take (i := 3) (v := ?_) rfl (by kernel_rfl) (by kernel_rfl) (by kernel_rfl) (by kernel_rfl) (fun _ _ _ h => h) (by rfl) ?_ HSS.out ?_
    rotate_left
    · (intro wS hwS; (try dsimp only at hwS); go_simp; try with_reducible rfl)
    simp only [Act.put, List.getElem_toArray, List.getElem_cons_zero, List.getElem_cons_succ, List.setIfInBounds_toArray, List.set_cons_zero, List.set_cons_succ]
    refine wpL_one (i := 4) (by kernel_rfl) rfl (fun K hK => ?_)
    simp only [List.getElem_toArray, List.getElem_cons_zero, List.getElem_cons_succ]
    go_simp
    have ct4 := ct.out W.drew (HTAB.out 1)
    refine ct4.mono ?_
    clear ct4
    rintro _ wf ⟨rfl, hwf⟩
    rw [hwf]
    clear hwf wf
    refine hK.out _ _ (fun _ => HSS.out) ?_
    clear hK K
    try simp only [Act.put, List.getElem_toArray, List.getElem_cons_zero, List.getElem_cons_succ, List.setIfInBounds_toArray, List.set_cons_zero, List.set_cons_succ]
    refine wpU_take (i := 5) (v := ?_) rfl (by kernel_rfl) (by kernel_rfl) (by kernel_rfl) (by kernel_rfl) (fun _ _ _ h => h) (by rfl) ?_ HSS.out ?_
    rotate_left
    · (intro wS hwS; (try dsimp only at hwS); go_simp; try with_reducible rfl)
    simp only [Act.put, List.getElem_toArray, List.getElem_cons_zero, List.getElem_cons_succ, List.setIfInBounds_toArray, List.set_cons_zero, List.set_cons_succ]
    refine wpL_one (i := 6) (by kernel_rfl) rfl (fun K hK => ?_)
    simp only [List.getElem_toArray, List.getElem_cons_zero, List.getElem_cons_succ]
    go_simp
    have ct6 := added_any G v hv W.drew (HFIX.out 1)
    refine ct6.mono ?_
    clear ct6
    rintro _ wg ⟨rfl, nA, hwg⟩
    rw [hwg]
    clear hwg wg
    refine hK.out _ _ (fun _ => r2) ?_
    clear hK K
    try simp only [Act.put, List.getElem_toArray, List.getElem_cons_zero, List.getElem_cons_succ, List.setIfInBounds_toArray, List.set_cons_zero, List.set_cons_succ]
    refine wpL_one (i := 7) (by kernel_rfl) rfl (fun K hK => ?_)
    simp only [List.getElem_toArray, List.getElem_cons_zero, List.getElem_cons_succ]
    go_simp
    refine (callsIn_wide.1 (members_in Fence.wide 9 trivial rfl _ _ _ _)).mono ?_
    rintro _ wh ⟨rfl, hwh⟩
    rw [hwh]
    clear hwh wh
    refine hK.out _ _ (fun h => absurd rfl h) ?_
    clear hK K
    refine wpL_done (by kernel_rfl) ?_ _
    refine NoPanic.normal ?_
    go_wp2_with (fail)
    obtain ⟨w4, hw4⟩ : ∃ w4, w4 = ((W.drewN (1 + nA)).alloc (Obj.cells #[Value.slice (some ⟨L.bB, L.n + v, none⟩) 1 1] 23)) := ⟨_, rfl⟩
    obtain ⟨Bs, hBs⟩ : ∃ Bs, Bs = W.heap.size := ⟨_, rfl⟩
    have hB4 : Below W.heap.size W w4 := by rw [hw4]; exact ⟨rfl, rfl, rfl, by simp, fun k hk => Below.heap_alloc _ _ _ hk⟩
    obtain ⟨s3, hs3⟩ : ∃ s3 : St, s3 = { st2 with wt := given L.add st2.wt pre } := ⟨_, rfl⟩
    have HS3 : Hid (s3 = { st2 with wt := given L.add st2.wt pre }) := hs3
    have hS4 : Sta L s3 w4 := by rw [hs3]; exact HSI.out.below G hB4
    have cBs : w4.cell? ⟨Bs, 0, none⟩ = some (.slice (some ⟨L.bB, L.n + v, none⟩) 1 1) := by
      rw [hw4, hBs]
      exact cell_in (heap_alloc_new (W.drewN (1 + nA)) _) rfl
    have hM4 : Marked L Ds w4 := ⟨fun D hD => ⟨(HIN.out.2.2.at_ D hD).1, (hB4.block D (Array.getElem?_eq_some_iff.1 (HIN.out.2.2.at_ D hD).2).1).trans (HIN.out.2.2.at_ D hD).2⟩, HIN.out.2.2.nd⟩
    have hM4lt : ∀ D ∈ Ds, D < w4.heap.size := fun D hD => (Array.getElem?_eq_some_iff.1 (hM4.at_ D hD).2).1
    rw [← hw4]
    try rw [← hBs]
    have HS4 : Hid (Sta L s3 w4) := hS4
    have hw1 : L.w1.heap.size ≤ w4.heap.size := hS4.core.fix.size
    have hBl := G.Bl
    have hadd := hS4.core.fix.addAt G hv
    have htab := hS4.core.fix.tab G
    have hx512 : L.add v < 512 := Nat.lt_of_lt_of_le (G.add_lt v) (Nat.pow_le_pow_right (n := 2) (by omega) hn)
    have hxN : ∀ u ∈ ones 9 (L.add v), u < L.n := fun u hu => by
      have hb := (ones_mem hx512 u).1 hu
      rcases Nat.lt_or_ge u L.n with h | h
      · exact h
      · rw [Nat.testBit_lt_two_pow (Nat.lt_of_lt_of_le (G.add_lt v) (Nat.pow_le_pow_right (by omega) h))] at hb
        cases hb
    have HBX3 : Hid (s3.fo bx = some (#[Value.pointer (some ⟨L.K, 0, none⟩)], 25)) := by rw [hs3]; exact HF1.out
    clear hw4 hB4 hS4 r2 hs3
    refine (wpIn_wide (n := 9)).1 ?_
    refine range_one (p := 97) (d := 11) rfl (by omega) (gf := 28) (lb := #[.pointer (some ⟨Bs, 0, none⟩)]) rfl trivial (enters_of Ybad.func28 (by kernel_rfl) rfl) (enc := fun (y : Nd L.n) => .int .i64 (y.1 : Nat))
      (members_stops 8 (by omega) Bs (L.bB + 1) L.bB (L.n + v) L.n (L.add v) hn hx512 hxN (by omega) (by omega) w4 cBs hadd htab (by omega)) belowK_t (belowK_b (by omega)) (Below.refl _ _)
      (fun pre W => Sta L { s3 with wt := bump 1 s3.wt (pre.map (·.1)) } W ∧ ∀ D ∈ Ds, W.heap[D]? = some (.deferred (some [])))
      (fun s A B row hs hg hr => ⟨hs.1.turn G hg (fun r e => ⟨Nat.le_trans hw1 (hr r e).1, (hr r e).2⟩), fun D hD => (hg.block D (Array.getElem?_eq_some_iff.1 (hs.2 D hD)).1 (fun e => by have h1 := (hr D e.symm).1; have h2 := hM4lt D hD; omega)).trans (hs.2 D hD)⟩) ⟨HS4.out, fun D hD => (hM4.at_ D hD).2⟩ ?assign ?body ?done
    case assign =>
      intro l y W K hK
      simp only [List.setIfInBounds_toArray, List.set_cons_zero, List.set_cons_succ] at hK ⊢
      gi_wp2
      exact hK
    case body =>
      rintro l pre' y W5 ⟨hIp, hDp⟩ hpl
      simp only [List.setIfInBounds_toArray, List.set_cons_zero, List.set_cons_succ]
      have hple : pre.length ≤ 9 := by
        have h1 := congrArg List.length HIN.out.1
        have h9 : (ones 9 x0).length ≤ 9 := by
          have := List.length_filter_le (fun u => x0.testBit u) (List.range 9)
          simpa [ones] using this
        simp at h1
        omega
      have hbb := bump_bound 1 (by omega) (pre'.map (·.1)) s3.wt y.1
      rw [List.length_map] at hbb
      have hgb := given_bound L.add pre st2.wt y.1
      have e3 : s3.wt = given L.add st2.wt pre := by rw [HS3.out]
      have e2 : st2.wt = st.wt := by rw [HST2.out]; show st1.wt = _; rw [HST1.out]; show st0.wt = _; rw [HST0.out]
      have hwty := HWT.out y.1 y.2
      rw [e2] at hgb
      rw [e3, e2] at hbb
      have bW : L.bB + 1 ≤ L.bW := G.BW
      have hcy := hIp.core.wt y.1 y.2
      have r5 := HBOX.out _ W5 hIp HBX3.out
      have g9 := (hIp.look G).2.2.2.2.2.2.1
      have fW5 : W5.frozen? ⟨L.bW, y.1, none⟩ = false := hIp.core.fix.fr G (b := L.bW) (by simp [Lay.Spec]) _
      obtain ⟨u, hu⟩ : ∃ u, u = y.1 := ⟨_, rfl⟩
      have hun : u < L.n := hu ▸ y.2
      obtain ⟨c, hc⟩ : ∃ c, bump 1 s3.wt (pre'.map (·.1)) y.1 = c := ⟨_, rfl⟩
      have HC : Hid (bump 1 s3.wt (pre'.map (·.1)) y.1 = c) := hc
      have HU : Hid (u = y.1) := hu
      have hc1 : -2000 ≤ c ∧ c ≤ 2000 := by rw [← hc, e3, e2]; omega
      dsimp only at hcy
      rw [hc] at hcy
      rw [← hu] at hcy fW5 ⊢
      have HIP : Hid (Sta L { s3 with wt := bump 1 s3.wt (pre'.map (·.1)) } W5 ∧ ∀ D ∈ Ds, W5.heap[D]? = some (.deferred (some []))) := ⟨hIp, hDp⟩
      clear hIp hbb hwty hu hc hgb e3 e2 hDp htab hadd cBs
      gi_wp2
      refine ⟨KeepsOthers.setCell _ _ _, Below.stored (Below.refl _ _) bW _, ?_⟩
      have hfin := HIP.out.1.setWait G u hun (c + 1)
      have e2 : put (bump 1 s3.wt (pre'.map (·.1))) u (c + 1) = bump 1 s3.wt ((pre' ++ [y]).map (·.1)) := by
        rw [List.map_append]
        show _ = bump 1 s3.wt (pre'.map (·.1) ++ [y.1])
        rw [bump_snoc, HU.out, HC.out]
      dsimp only at hfin
      rw [e2] at hfin
      exact ⟨hfin, fun D hD => (KeepsOthers.setCell _ _ _).same D _ (HIP.out.2 D hD) rfl⟩
    case done =>
      rintro D ys W5 hD hys ⟨hIx, hDx⟩ hKD
      rw [hys] at hIx
      have hzs : IntKind.u64.wrap ((x : Int) - 1) = (x : Int) - 1 := by rw [IntKind.wrap_u64]; omega
      have HIX : Hid (Sta L { s3 with wt := bump 1 s3.wt (ones 9 (L.add v)) } W5 ∧ (∀ D ∈ Ds, W5.heap[D]? = some (.deferred (some []))) ∧ w4.heap.size ≤ D ∧ W5.heap[D]? = some (.deferred (some []))) := ⟨hIx, hDx, hD, hKD⟩
      clear hIx hDx hD hKD hys
      go_wp2_with (fail)
      refine HK.out _ _ (Handed.intro (ones 9 (x &&& (x - 1))).length ?_ (HJ.out _ _ _ ⟨D :: Ds, x &&& (x - 1), pre ++ [v], ?fr, ?lt, ?cut, rfl, ?sta, ?mk⟩))
      case fr => exact Fr.mk ..
      case lt => exact Nat.lt_trans HL1.out.2 hx5
      case cut => rw [HIN.out.1, HL1.out.1]; simp
      case sta =>
        have h := HIX.out.1
        rw [HS3.out] at h
        rw [given_snoc]
        exact h
      case mk =>
        refine ⟨fun E hE => ?_, List.nodup_cons.2 ⟨fun hm => ?_, hM4.nd⟩⟩
        · rcases List.mem_cons.1 hE with rfl | hE
          · exact ⟨Nat.le_trans hw1 HIX.out.2.2.1, HIX.out.2.2.2⟩
          · exact ⟨(hM4.at_ E hE).1, HIX.out.2.1 E hE⟩
        · have h1 := hM4lt D hm
          have h2 := HIX.out.2.2.1
          omega
      · rw [HIN.out.2.1, HL1.out.1]
        simp
end Go.Proofs.YbulkcoguDoor
