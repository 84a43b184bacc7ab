import Derived.Test.YbulkcoecFmtHLay
namespace Go.Proofs.YbulkcoecFmt
open Go.RowKit Go.Deep Go.Extern.Stop Go.Stop Go.MuLone
set_option linter.unusedVariables false
set_option linter.unusedSimpArgs false

theorem five (w : World) (o0 o1 o2 o3 o4 : Obj) {W : World} (hW : W = ((((w.alloc o0).alloc o1).alloc o2).alloc o3).alloc o4) :
    W.heap[w.heap.size]? = some o0 ∧ W.heap[w.heap.size + 1]? = some o1 ∧ W.heap[w.heap.size + 1 + 1]? = some o2 ∧ W.heap[w.heap.size + 1 + 1 + 1]? = some o3 ∧ W.heap[w.heap.size + 1 + 1 + 1 + 1]? = some o4 ∧ W.heap.size = w.heap.size + 5 ∧ Below w.heap.size w W := by
  have S := fun (W : World) (o : Obj) => Stay.alloc (fun _ => False) W o
  have n0 := heap_alloc_new w o0
  have n1 := heap_alloc_new (w.alloc o0) o1
  have n2 := heap_alloc_new ((w.alloc o0).alloc o1) o2
  have n3 := heap_alloc_new (((w.alloc o0).alloc o1).alloc o2) o3
  have n4 := heap_alloc_new ((((w.alloc o0).alloc o1).alloc o2).alloc o3) o4
  simp only [World.size_alloc] at n1 n2 n3 n4
  have f : ∀ e : False, False := fun e => e
  rw [hW]
  exact ⟨(S _ o4).at_ ((S _ o3).at_ ((S _ o2).at_ ((S _ o1).at_ n0 f) f) f) f, (S _ o4).at_ ((S _ o3).at_ ((S _ o2).at_ n1 f) f) f, (S _ o4).at_ ((S _ o3).at_ n2 f) f, (S _ o4).at_ n3 f, n4, by simp only [World.size_alloc],
    ((((S w o0).trans (S _ o1)).trans (S _ o2)).trans (S _ o3)).trans (S _ o4) |>.below (Nat.le_refl _) (fun _ _ e => e)⟩

theorem Ybaf.info26 : (Ybaf.prog.info? 26).map (fun i => (i.zero, i.size, i.bytes)) = some (some (.int .u64 0), 1, 8) := by kernel_rfl

theorem none_own (b : Nat) : (Value.slice none 0 0).ownBlock ≠ some b := by
  intro e
  cases e

set_option maxRecDepth 100000 in
set_option maxHeartbeats 8000000 in
theorem law_hold (F : Interp) (id : Int) (kp : Bool) (ia : Option Addr) (il ic : Nat) (oa : Option Addr) (ol oc : Nat) (xs : List Int) (fs : List Bool) (w : World) (hF : F.answers w.tape) (hx : AtIn w.heap.size w ia xs) (hxl : xs.length = il) (hf : AtBo w.heap.size w oa fs) (hfl : fs.length = ol) (hil : il ≤ 9223372036854775807) (hol : ol ≤ 9223372036854775807) :
    Calls Ybaf.prog 4 #[.int .u64 id, .bool kp, .slice ia il ic, .slice oa ol oc] w fun e w' => e = .returned (.bool true) ∧ Below w.heap.size w w' := by
  by_cases h512 : 512 < il
  · have hgt : (512 : Int) < (il : Int) := by omega
    clear hF hx hf hxl hfl h512
    go_enter Ybaf.func4, Ybaf.ntmps4
    go_wp2
    go_ret
    exact ⟨rfl, Below.refl _ _⟩
  have HX : Hid (F.answers w.tape ∧ AtIn w.heap.size w ia xs ∧ xs.length = il ∧ AtBo w.heap.size w oa fs ∧ fs.length = ol ∧ ol ≤ 9223372036854775807) := ⟨hF, hx, hxl, hf, hfl, hol⟩
  have hgt : ¬ (512 : Int) < (il : Int) := by omega
  have hil2 : il ≤ 512 := by omega
  clear hF hx hf hxl hfl hol h512 hil
  have m49 : ∀ W : World, (Instr.makeSlice 49 (.int .i64 3) (.int .i64 3)).run Ybaf.prog W = .ok (.slice (some ⟨W.heap.size, 0, none⟩) 3 3) (W.alloc (.cells #[.nilFunc, .int .i64 0, .bool false, .nilFunc, .int .i64 0, .bool false, .nilFunc, .int .i64 0, .bool false] 92)) := fun W => by kernel_rfl
  have m50 : ∀ W : World, (Instr.makeMap 50 Option.none).run Ybaf.prog W = .ok (.map (some W.heap.size)) (W.alloc (.map #[] 0)) := fun W => run_makeMap_plain W 50
  go_enter Ybaf.func4, Ybaf.ntmps4
  go_upto_region 6 with (fail)
  clear m49 m50 hgt
  obtain ⟨bP, hbP⟩ : ∃ x, w.heap.size = x := ⟨_, rfl⟩
  obtain ⟨r, hr⟩ : ∃ x, w.heap.size + 1 = x := ⟨_, rfl⟩
  obtain ⟨bM, hbM⟩ : ∃ x, w.heap.size + 1 + 1 = x := ⟨_, rfl⟩
  obtain ⟨ko, hko⟩ : ∃ x, w.heap.size + 1 + 1 + 1 = x := ⟨_, rfl⟩
  obtain ⟨kt, hkt⟩ : ∃ x, w.heap.size + 1 + 1 + 1 + 1 = x := ⟨_, rfl⟩
  obtain ⟨W0, hW0⟩ : ∃ W, W = ((((w.alloc (.cells #[.nilFunc, .int .i64 0, .bool false, .nilFunc, .int .i64 0, .bool false, .nilFunc, .int .i64 0, .bool false] 92)).alloc (.map #[] 0)).alloc (.cells (memA 0 kp (.slice (some ⟨bP, 0, none⟩) 3 3) (.slice none 0 0) (.slice none 0 0) (.map (some r))) 66)).alloc (.cells #[.int .i64 0, .int .i64 1] 68)).alloc (.cells #[.int .i64 0, .int .i64 2] 68) := ⟨_, rfl⟩
  obtain ⟨s0, s1, s2, s3, s4, s5, s6⟩ := five w _ _ _ _ _ hW0
  rw [hkt] at s4 ⊢
  rw [hko] at s3 ⊢
  rw [hbM] at s2 ⊢
  rw [hr] at s1 ⊢
  rw [hbP] at s0 ⊢
  rw [show ((((w.alloc (.cells #[.nilFunc, .int .i64 0, .bool false, .nilFunc, .int .i64 0, .bool false, .nilFunc, .int .i64 0, .bool false] 92)).alloc (.map #[] 0)).alloc (.cells #[.slice none 0 0, .map none, .bool kp, .float .f64 0, .int .i32 0, .int .u32 0, .slice (some ⟨bP, 0, none⟩) 3 3, .pointer none, .int .u64 0, .int .u64 0, .slice none 0 0, .slice none 0 0, .slice none 0 0, .map (some r)] 66)).alloc (.cells #[.int .i64 0, .int .i64 1] 68)).alloc (.cells #[.int .i64 0, .int .i64 2] 68) = W0 from hW0.symm]
  have HL1 : Hid (Calls Ybaf.prog 15 #[.pointer (some ⟨bM, 0, none⟩), .agg #[.int .i64 0, .int .i64 1]] W0 fun e w' => ∃ bN, e = .returned (.pointer (some ⟨bN, 0, none⟩)) ∧ LaneMade2 bM r (fun v => #[⟨.agg #[.int .i64 0, .int .i64 1], v, 0⟩]) 0 W0 bN w') := lane_first bM r kp _ _ _ W0 s2 s1 (by omega)
  have k0 := cell_in s3 (o := 0) (u := .int .i64 0) rfl
  have k1 := cell_in s3 (o := 1) (u := .int .i64 1) rfl
  have HS : Hid (W0.heap[bP]? = some (.cells #[.nilFunc, .int .i64 0, .bool false, .nilFunc, .int .i64 0, .bool false, .nilFunc, .int .i64 0, .bool false] 92) ∧ W0.heap[bM]? = some (.cells (memA 0 kp (.slice (some ⟨bP, 0, none⟩) 3 3) (.slice none 0 0) (.slice none 0 0) (.map (some r))) 66) ∧ W0.heap[ko]? = some (.cells #[.int .i64 0, .int .i64 1] 68) ∧ W0.heap[kt]? = some (.cells #[.int .i64 0, .int .i64 2] 68) ∧ W0.heap.size = w.heap.size + 5 ∧ Below w.heap.size w W0) := ⟨s0, s2, s3, s4, s5, s6⟩
  have HB : Hid (w.heap.size = bP ∧ w.heap.size + 1 = r ∧ w.heap.size + 1 + 1 = bM ∧ w.heap.size + 1 + 1 + 1 = ko ∧ w.heap.size + 1 + 1 + 1 + 1 = kt) := ⟨hbP, hr, hbM, hko, hkt⟩
  clear s0 s1 s2 s3 s4 s5 s6 hbP hr hbM hko hkt hW0
  go_upto_region 7 with (go_at_call 15; refine HL1.out.mono ?_; rintro _ w1 ⟨n1, rfl, hln⟩; have HM1 : Hid (LaneMade2 bM r (fun v => #[⟨.agg #[.int .i64 0, .int .i64 1], v, 0⟩]) 0 W0 n1 w1) := hln; clear hln)
  obtain ⟨g0, g2, g3, g4, g5, g6⟩ := HS.out
  obtain ⟨e0, e1, e2, e3, e4⟩ := HB.out
  have q0 := HM1.out.st.at_ g0 (by omega)
  have q2 := HM1.out.st.at_ g2 (by omega)
  have q3 := HM1.out.st.at_ g3 (by omega)
  have q4 := HM1.out.st.at_ g4 (by omega)
  have HL2 : Hid (Calls Ybaf.prog 15 #[.pointer (some ⟨bM, 0, none⟩), .agg #[.int .i64 0, .int .i64 2]] w1 fun e w' => ∃ bN, e = .returned (.pointer (some ⟨bN, 0, none⟩)) ∧ LaneMade2 bM r (fun v => #[⟨.agg #[.int .i64 0, .int .i64 1], ptr n1, 0⟩, ⟨.agg #[.int .i64 0, .int .i64 2], v, 1⟩]) 1 w1 bN w') := lane_second bM r kp _ _ _ (ptr n1) w1 q2 HM1.out.mp (by omega)
  have t0 := cell_in q4 (o := 0) (u := .int .i64 0) rfl
  have t1 := cell_in q4 (o := 1) (u := .int .i64 2) rfl
  have HQ : Hid (w1.heap[bP]? = some (.cells #[.nilFunc, .int .i64 0, .bool false, .nilFunc, .int .i64 0, .bool false, .nilFunc, .int .i64 0, .bool false] 92) ∧ w1.heap[bM]? = some (.cells (memA 0 kp (.slice (some ⟨bP, 0, none⟩) 3 3) (.slice none 0 0) (.slice none 0 0) (.map (some r))) 66) ∧ w1.heap[ko]? = some (.cells #[.int .i64 0, .int .i64 1] 68) ∧ w1.heap[kt]? = some (.cells #[.int .i64 0, .int .i64 2] 68)) := ⟨q0, q2, q3, q4⟩
  clear q0 q2 q3 q4 g0 g2 g3 g4 g5 g6 e0 e1 e2 e3 e4 k0 k1 HL1
  go_upto_region 8 with (go_at_call 15; refine HL2.out.mono ?_; rintro _ w2 ⟨n2, rfl, hln⟩; have HM2 : Hid (LaneMade2 bM r (fun v => #[⟨.agg #[.int .i64 0, .int .i64 1], ptr n1, 0⟩, ⟨.agg #[.int .i64 0, .int .i64 2], v, 1⟩]) 1 w1 n2 w2) := hln; clear hln)
  obtain ⟨Y, hYB, hYM, hYr, hY1, hY2, hYP, hYo, hYt⟩ : ∃ Y : Lb, Y.B = w.heap.size ∧ Y.bM = bM ∧ Y.r = r ∧ Y.n1 = n1 ∧ Y.n2 = n2 ∧ Y.bP = bP ∧ Y.ko = ko ∧ Y.kt = kt := ⟨⟨w.heap.size, bM, r, n1, n2, bP, ko, kt⟩, rfl, rfl, rfl, rfl, rfl, rfl, rfl, rfl⟩
  subst hYM hYr hY1 hY2 hYP hYo hYt
  obtain ⟨I, hIi, hIk, hIs, hIo⟩ : ∃ I : Li, I.id = id ∧ I.keep = kp ∧ (∀ t, I.ids t = xs.getD t 0) ∧ (∀ t, I.own t = !fs.getD t false) := ⟨⟨id, kp, fun t => xs.getD t 0, fun t => !fs.getD t false⟩, rfl, rfl, fun _ => rfl, fun _ => rfl⟩
  subst hIi hIk
  have HI : Hid ((∀ t, I.ids t = xs.getD t 0) ∧ (∀ t, I.own t = !fs.getD t false)) := ⟨hIs, hIo⟩
  have HB0 : Hid (Bw Y I w 0 [] (.slice none 0 0) (.slice (some ⟨w2.heap.size, 0, none⟩) 1 1) (I.wh 0) (.slice none 0 0) (I.wf 0) (w2.alloc (.cells #[.int .u64 I.id] 26))) := by
    obtain ⟨g0, g2, g3, g4, g5, g6⟩ := HS.out
    obtain ⟨e0, e1, e2, e3, e4⟩ := HB.out
    obtain ⟨q0, q2, q3, q4⟩ := HQ.out
    have m1 := HM1.out
    have m2 := HM2.out
    have l1 := m1.lt
    have l2 := m2.lt
    have st2 := m2.st
    have sa : Stay (fun _ => False) w2 (w2.alloc (.cells #[.int .u64 I.id] 26)) := Stay.alloc _ _ _
    have hn1 : Y.n1 < w1.heap.size := lt_of m1.ln
    have f : ∀ e : False, False := fun e => e
    refine ⟨sa.at_ (st2.at_ q2 (by omega)) f, sa.at_ m2.mp f, sa.at_ (st2.at_ m1.ln (by omega)) f, sa.at_ m2.ln f, by omega, sa.at_ (st2.at_ q0 (by omega)) f, sa.at_ (st2.at_ q3 (by omega)) f, sa.at_ (st2.at_ q4 (by omega)) f, World.ownsRow_nil _ _ _ _, rfl, fun t ht => by omega, ?_, World.ownsRow_nil _ _ _ _, fun g _ e => none_own g e, ?_, hYB, by omega, by omega⟩
    · refine ⟨rfl, .inr ⟨w2.heap.size, 1, #[.int .u64 I.id], rfl, ?_, heap_alloc_new w2 _, Nat.le_refl _, by unfold maxLen; omega, rfl, rfl⟩⟩
      have := st2.size; have := m1.st.size; omega
    · exact below_of (below_of (below_of g6 m1.st (fun b hb e => by omega)) st2 (fun b hb e => by omega)) sa (fun _ _ e => e)
  clear HL2 HM1 HM2 HS HB HQ t0 t1 hIs hIo hYB
  go_wp2
  go_loopw [14, 15, 48] (fun wh wf q wr => ∃ (i : Nat) (bs : List Nat) (vf : Value), i ≤ il ∧ q = .int .i64 i ∧ Bw Y I w i bs vf wh (I.wh i) wf (I.wf i) wr) (fun _ _ q _ => il - (intOf q).toNat)
  case atStart => exact ⟨0, [], _, Nat.zero_le _, rfl, HB0.out⟩
  case round =>
    obtain ⟨i, bs, vf, hi, rfl, hb⟩ := hrel
    by_cases hlt : i < il
    · obtain ⟨b, o, hia, hbb, hcell⟩ := HX.out.2.1 i (by rw [HX.out.2.2.1]; exact hlt)
      rw [← HI.out.1 i, ← hb.bel.cell (p := ⟨b, o + i, none⟩) hbb] at hcell
      have k0 := cell_in hb.ko (o := 0) (u := .int .i64 0) rfl
      have k1 := cell_in hb.ko (o := 1) (u := .int .i64 1) rfl
      obtain ⟨kl, hkl⟩ : ∃ x, wr.heap.size = x := ⟨_, rfl⟩
      obtain ⟨W1, hW1⟩ : ∃ W, W = wr.alloc (.cells #[.int .i64 0, .int .i64 1] 68) := ⟨_, rfl⟩
      have hs1 : Stay (fun _ => False) wr W1 := by rw [hW1]; exact Stay.alloc _ _ _
      have hk1 : W1.heap[kl]? = some (.cells #[.int .i64 0, .int .i64 1] 68 (0, 0)) := by rw [hW1, ← hkl]; exact heap_alloc_new wr _
      have HBW : Hid (Bw Y I w i bs vf u14 (I.wh i) u15 (I.wf i) W1) := hb.idle hs1
      have HK1 : Hid (W1.heap[kl]? = some (.cells #[.int .i64 0, .int .i64 1] 68 (0, 0)) ∧ wr.heap.size = kl ∧ Stay (fun _ => False) wr W1 ∧ Bw Y I w i bs vf u14 (I.wh i) u15 (I.wf i) wr) := ⟨hk1, hkl, hs1, hb⟩
      have HW1 : Hid (wr.alloc (.cells #[.int .i64 0, .int .i64 1] 68) = W1 ∧ wr.heap.size = kl) := ⟨hW1.symm, hkl⟩
      subst hia
      clear hb hs1 hk1 hkl hW1
      go_upto_region 15 with (fail)
      rw [HW1.out.1, HW1.out.2]
      clear hcell k0 k1 HW1
      go_cut [63] (fun s63 wx => s63 = .bool (!I.own i) ∧ wx = W1)
      case first =>
        by_cases hjf : i < ol
        · obtain ⟨b2, o2, hoa, hb2, hcell2⟩ := HX.out.2.2.2.1 i (by rw [HX.out.2.2.2.2.1]; exact hjf)
          have ho : fs.getD i false = !I.own i := by rw [HI.out.2 i]; simp
          rw [ho, ← HBW.out.bel.cell (p := ⟨b2, o2 + i, none⟩) hb2] at hcell2
          subst hoa
          clear ho
          go_wp2_with fail
          go_meet
          exact ⟨rfl, rfl⟩
        · have ho : (!I.own i) = false := by
            rw [HI.out.2 i]
            simp [List.getD]
            rw [List.getElem?_eq_none (by rw [HX.out.2.2.2.2.1]; omega)]
            rfl
          have HO : Hid ((!I.own i) = false) := ho
          clear ho
          go_wp2_with fail
          go_meet
          exact ⟨by rw [HO.out], rfl⟩
      case rest =>
        obtain ⟨rfl, hwc⟩ := hcut
        subst hwc
        go_upto_if 63 with fail
        go_cut [19] (fun s19 wx => ∃ tt : ByteArray, s19 = .string tt ∧ wx.heap[kl]? = some (.cells #[.int .i64 0, .int .i64 (lk (I.own i))] 68 (0, 0)) ∧ Bw Y I w i bs vf u14 (I.wh i) u15 (I.wf i) wx)
        case first =>
          cases ho : I.own i with
          | true =>
            go_wp2_with fail
            go_meet
            exact ⟨⟨#[98]⟩, rfl, by rw [ho]; exact HK1.out.1, HBW.out⟩
          | false =>
            have k0 := cell_in HBW.out.kt (o := 0) (u := .int .i64 0) rfl
            have k1 := cell_in HBW.out.kt (o := 1) (u := .int .i64 2) rfl
            have c0 := cell_in HK1.out.1 (o := 0) (u := .int .i64 0) rfl
            have c1 := cell_in HK1.out.1 (o := 1) (u := .int .i64 1) rfl
            have z0 := free_in HK1.out.1 (o := 0)
            have z1 := free_in HK1.out.1 (o := 1)
            go_wp2_with fail
            go_meet
            have h1 := heap_setCell_same _ kl 0 _ 68 (.int .i64 0) HK1.out.1
            refine ⟨⟨#[99]⟩, rfl, ?_, HK1.out.2.2.2.idle ((HK1.out.2.2.1.trans' (Stay.set (S := fun b => b = kl) _ _ _ _ rfl) (fun b hb e => by have := HK1.out.2.1; omega)).trans' (Stay.set (S := fun b => b = kl) _ _ _ _ rfl) (fun b hb e => by have := HK1.out.2.1; omega))⟩
            rw [heap_setCell_same _ kl 1 _ 68 _ h1, ho]
            rfl
        case rest =>
          clear HBW HK1
          obtain ⟨tt, rfl, hkl, hb⟩ := hcut
          obtain ⟨pb, hpb⟩ : ∃ x, wc.heap.size = x := ⟨_, rfl⟩
          have wi : IntKind.u64.wrap (i : Int) = i := by rw [IntKind.wrap_u64]; omega
          have wi1 : IntKind.u64.wrap ((i : Int) + 1) = (i : Int) + 1 := by rw [IntKind.wrap_u64]; omega
          have wi2 : IntKind.u64.wrap ((i : Int) + 2) = (i : Int) + 2 := by rw [IntKind.wrap_u64]; omega
          have HSS : Hid ((fun w' : World => w'.cell? ⟨Y.bM, 10, none⟩ = some vf ∧ w'.cell? ⟨kl, 0, none⟩ = some (.int .i64 0) ∧ w'.cell? ⟨kl, 1, none⟩ = some (.int .i64 (lk (I.own i)))) wc.drew) := ⟨cell_in hb.m (o := 10) rfl, cell_in hkl (o := 0) rfl, cell_in hkl (o := 1) rfl⟩
          obtain ⟨W3, hW3⟩ : ∃ W, W = (wc.alloc (.cells (pendA (I.ids i) tt (lk (I.own i)) ((i : Int) + 2) ((i : Int) + 1)) 75)).drew := ⟨_, rfl⟩
          have hs3 : Stay (fun _ => False) wc W3 := by rw [hW3]; exact (Stay.alloc _ _ _).drew
          have hp3 : W3.heap[pb]? = some (.cells (pendA (I.ids i) tt (lk (I.own i)) ((i : Int) + 2) ((i : Int) + 1)) 75 (0, 0)) := by rw [hW3, ← hpb]; exact heap_alloc_new wc _
          have hz3 : W3.heap.size = pb + 1 := by rw [hW3]; show (wc.alloc _).heap.size = _; rw [World.size_alloc, hpb]
          have hkl3 := hs3.at_ hkl (fun e => e)
          have hb3 := hb.idle hs3
          have HS3 : Hid ((fun w' : World => w'.cell? ⟨Y.bM, 10, none⟩ = some vf ∧ w'.cell? ⟨kl, 0, none⟩ = some (.int .i64 0) ∧ w'.cell? ⟨kl, 1, none⟩ = some (.int .i64 (lk (I.own i)))) W3) := ⟨cell_in hb3.m (o := 10) rfl, cell_in hkl3 (o := 0) rfl, cell_in hkl3 (o := 1) rfl⟩
          obtain ⟨W4, hW4⟩ : ∃ W, W = W3.alloc (.cells #[.pointer (some ⟨pb, 0, none⟩)] 71) := ⟨_, rfl⟩
          have hs4 : Stay (fun _ => False) W3 W4 := by rw [hW4]; exact Stay.alloc _ _ _
          have hD4 : W4.heap[pb + 1]? = some (.cells #[.pointer (some ⟨pb, 0, none⟩)] 71 (0, 0)) := by rw [hW4, ← hz3]; exact heap_alloc_new W3 _
          have hz4 : W4.heap.size = pb + 1 + 1 := by rw [hW4, World.size_alloc, hz3]
          have hkl4 := hs4.at_ hkl3 (fun e => e)
          have hb4 := hb3.idle hs4
          have hp4 := hs4.at_ hp3 (fun e => e)
          have HS4 : Hid ((fun w' : World => w'.cell? ⟨Y.bM, 10, none⟩ = some vf ∧ w'.cell? ⟨kl, 0, none⟩ = some (.int .i64 0) ∧ w'.cell? ⟨kl, 1, none⟩ = some (.int .i64 (lk (I.own i)))) W4) := ⟨cell_in hb4.m (o := 10) rfl, cell_in hkl4 (o := 0) rfl, cell_in hkl4 (o := 1) rfl⟩
          obtain ⟨i0, hi0, hz0, hz1, hz2⟩ := info_parts Ybaf.info71
          have HI0 : Hid (Ybaf.prog.info? 71 = some i0 ∧ i0.zero = some (.pointer none) ∧ i0.size = 1 ∧ i0.bytes = 8) := ⟨hi0, hz0, hz1, hz2⟩
          have HW3 : Hid ((wc.alloc (.cells #[.int .u64 (I.ids i), .string ⟨#[97]⟩, .string tt, .slice none 0 0, .int .i64 0, .int .i64 (lk (I.own i)), .int .u64 ((i : Int) + 2), .int .u64 ((i : Int) + 1)] 75)).drew = W3 ∧ wc.heap.size = pb) := ⟨hW3.symm, hpb⟩
          have HW4 : Hid (W3.alloc (.cells #[.pointer (some ⟨pb, 0, none⟩)] 71) = W4 ∧ W3.heap.size = pb + 1 ∧ W4.heap.size = pb + 1 + 1 ∧ W4.heap[pb + 1]? = some (.cells #[.pointer (some ⟨pb, 0, none⟩)] 71 (0, 0))) := ⟨hW4.symm, hz3, hz4, hD4⟩
          have H4 : Hid (Bw Y I w i bs vf u14 (I.wh i) u15 (I.wf i) W4 ∧ W4.heap[pb]? = some (.cells (pendA (I.ids i) tt (lk (I.own i)) ((i : Int) + 2) ((i : Int) + 1)) 75 (0, 0)) ∧ W4.heap[kl]? = some (.cells #[.int .i64 0, .int .i64 (lk (I.own i))] 68 (0, 0)) ∧ W4.ownsRow Y.B 71 1 vf bs.length (bs.map ptr)) := ⟨hb4, hp4, hkl4, hb4.fr⟩
          have hbl : bs.length ≤ 512 := by have := hb4.len; omega
          have hBs : Y.B ≤ W4.heap.size := by have := hb4.bM; have := lt_of hb4.m; omega
          clear hb hkl hpb hW3 hs3 hp3 hz3 hkl3 hb3 hW4 hs4 hD4 hz4 hkl4 hb4 hp4 hi0 hz0 hz1 hz2
          go_upto_region 18 with (fail)
          refine wp_region_L (fun w' : World => w'.cell? ⟨Y.bM, 10, none⟩ = some vf ∧ w'.cell? ⟨kl, 0, none⟩ = some (.int .i64 0) ∧ w'.cell? ⟨kl, 1, none⟩ = some (.int .i64 (lk (I.own i)))) 21 22 (by kernel_rfl) (by kernel_rfl) ?_
          refine wpU_take (i := 0) (v := ?_) rfl (by kernel_rfl) (by kernel_rfl) (by kernel_rfl) (by kernel_rfl) (fun _ _ _ h => h) (by rfl) ?_ HSS.out ?_
          rotate_left
          · (intro wS hwS; (try dsimp only at hwS); go_simp; try with_reducible rfl)
          simp only [Act.put, List.getElem_toArray, List.getElem_cons_zero, List.getElem_cons_succ, List.setIfInBounds_toArray, List.set_cons_zero, List.set_cons_succ]
          refine wpU_take (i := 1) (v := ?_) rfl (by kernel_rfl) (by kernel_rfl) (by kernel_rfl) (by kernel_rfl) (fun _ _ _ h => h) (by rfl) ?_ HSS.out ?_
          rotate_left
          · (intro wS hwS; (try dsimp only at hwS); go_simp; try with_reducible rfl)
          simp only [Act.put, List.getElem_toArray, List.getElem_cons_zero, List.getElem_cons_succ, List.setIfInBounds_toArray, List.set_cons_zero, List.set_cons_succ]
          refine wpU_take (i := 2) (v := ?_) rfl (by kernel_rfl) (by kernel_rfl) (by kernel_rfl) (by kernel_rfl) (fun _ _ _ h => h) (by rfl) ?_ HSS.out ?_
          rotate_left
          · (intro wS hwS; (try dsimp only at hwS); go_simp; try with_reducible rfl)
          simp only [Act.put, List.getElem_toArray, List.getElem_cons_zero, List.getElem_cons_succ, List.setIfInBounds_toArray, List.set_cons_zero, List.set_cons_succ]
          refine wpU_take (i := 3) (v := ?_) rfl (by kernel_rfl) (by kernel_rfl) (by kernel_rfl) (by kernel_rfl) (fun _ _ _ h => h) (by rfl) ?_ HSS.out ?_
          rotate_left
          · (intro wS hwS; (try dsimp only at hwS); go_simp; try with_reducible rfl)
          simp only [Act.put, List.getElem_toArray, List.getElem_cons_zero, List.getElem_cons_succ, List.setIfInBounds_toArray, List.set_cons_zero, List.set_cons_succ]
          refine wpU_take (i := 4) (v := ?_) rfl (by kernel_rfl) (by kernel_rfl) (by kernel_rfl) (by kernel_rfl) (fun _ _ _ h => h) (by rfl) ?_ HSS.out ?_
          rotate_left
          · (intro wS hwS; (try dsimp only at hwS); go_simp; try with_reducible rfl)
          simp only [Act.put, List.getElem_toArray, List.getElem_cons_zero, List.getElem_cons_succ, List.setIfInBounds_toArray, List.set_cons_zero, List.set_cons_succ]
          refine wpU_take (i := 5) (v := ?_) rfl (by kernel_rfl) (by kernel_rfl) (by kernel_rfl) (by kernel_rfl) (fun _ _ _ h => h) (by rfl) ?_ HSS.out ?_
          rotate_left
          · (intro wS hwS; (try dsimp only at hwS); go_simp; try with_reducible rfl)
          simp only [Act.put, List.getElem_toArray, List.getElem_cons_zero, List.getElem_cons_succ, List.setIfInBounds_toArray, List.set_cons_zero, List.set_cons_succ]
          refine wpU_take (i := 6) (v := ?_) rfl (by kernel_rfl) (by kernel_rfl) (by kernel_rfl) (by kernel_rfl) (fun _ _ _ h => h) (by rfl) ?_ HSS.out ?_
          rotate_left
          · (intro wS hwS; (try dsimp only at hwS); go_simp; try with_reducible rfl)
          simp only [Act.put, List.getElem_toArray, List.getElem_cons_zero, List.getElem_cons_succ, List.setIfInBounds_toArray, List.set_cons_zero, List.set_cons_succ]
          refine wpU_take (i := 7) (v := ?_) rfl (by kernel_rfl) (by kernel_rfl) (by kernel_rfl) (by kernel_rfl) (fun _ _ _ h => h) (by rfl) ?_ HSS.out ?_
          rotate_left
          · (intro wS hwS; (try dsimp only at hwS); go_simp; try with_reducible rfl)
          simp only [Act.put, List.getElem_toArray, List.getElem_cons_zero, List.getElem_cons_succ, List.setIfInBounds_toArray, List.set_cons_zero, List.set_cons_succ]
          refine wpU_take (i := 8) (v := ?_) rfl (by kernel_rfl) (by kernel_rfl) (by kernel_rfl) (by kernel_rfl) (fun _ _ _ h => h) (by rfl) ?_ HSS.out ?_
          rotate_left
          · (intro wS hwS; (try dsimp only at hwS); go_simp; try with_reducible rfl)
          simp only [Act.put, List.getElem_toArray, List.getElem_cons_zero, List.getElem_cons_succ, List.setIfInBounds_toArray, List.set_cons_zero, List.set_cons_succ]
          refine wpU_take (i := 9) (v := ?_) rfl (by kernel_rfl) (by kernel_rfl) (by kernel_rfl) (by kernel_rfl) (fun _ _ _ h => h) (by rfl) ?_ HSS.out ?_
          rotate_left
          · (intro wS hwS; (try dsimp only at hwS); go_simp; try with_reducible rfl)
          simp only [Act.put, List.getElem_toArray, List.getElem_cons_zero, List.getElem_cons_succ, List.setIfInBounds_toArray, List.set_cons_zero, List.set_cons_succ]
          refine wpU_take (i := 10) (v := ?_) rfl (by kernel_rfl) (by kernel_rfl) (by kernel_rfl) (by kernel_rfl) (fun _ _ _ h => h) (by rfl) ?_ HSS.out ?_
          rotate_left
          · (intro wS hwS; (try dsimp only at hwS); go_simp; try with_reducible rfl)
          simp only [Act.put, List.getElem_toArray, List.getElem_cons_zero, List.getElem_cons_succ, List.setIfInBounds_toArray, List.set_cons_zero, List.set_cons_succ]
          refine wpU_take (i := 11) (v := ?_) rfl (by kernel_rfl) (by kernel_rfl) (by kernel_rfl) (by kernel_rfl) (fun _ _ _ h => h) (by rfl) ?_ HSS.out ?_
          rotate_left
          · (intro wS hwS; (try dsimp only at hwS); go_simp; try with_reducible rfl)
          simp only [Act.put, List.getElem_toArray, List.getElem_cons_zero, List.getElem_cons_succ, List.setIfInBounds_toArray, List.set_cons_zero, List.set_cons_succ]
          refine wpU_take (i := 12) (v := ?_) rfl (by kernel_rfl) (by kernel_rfl) (by kernel_rfl) (by kernel_rfl) (fun _ _ _ h => h) (by rfl) ?_ HSS.out ?_
          rotate_left
          · (intro wS hwS; (try dsimp only at hwS); go_simp; try with_reducible rfl)
          simp only [Act.put, List.getElem_toArray, List.getElem_cons_zero, List.getElem_cons_succ, List.setIfInBounds_toArray, List.set_cons_zero, List.set_cons_succ]
          refine wpU_take (i := 13) (v := ?_) rfl (by kernel_rfl) (by kernel_rfl) (by kernel_rfl) (by kernel_rfl) (fun _ _ _ h => h) (by rfl) ?_ HSS.out ?_
          rotate_left
          · (intro wS hwS; (try dsimp only at hwS); go_simp; try with_reducible rfl)
          simp only [Act.put, List.getElem_toArray, List.getElem_cons_zero, List.getElem_cons_succ, List.setIfInBounds_toArray, List.set_cons_zero, List.set_cons_succ]
          refine wpU_take (i := 14) (v := ?_) rfl (by kernel_rfl) (by kernel_rfl) (by kernel_rfl) (by kernel_rfl) (fun _ _ _ h => h) (by rfl) ?_ HSS.out ?_
          rotate_left
          · (intro wS hwS; (try dsimp only at hwS); go_simp; try with_reducible rfl)
          simp only [Act.put, List.getElem_toArray, List.getElem_cons_zero, List.getElem_cons_succ, List.setIfInBounds_toArray, List.set_cons_zero, List.set_cons_succ]
          refine wpU_take (i := 15) (v := ?_) rfl (by kernel_rfl) (by kernel_rfl) (by kernel_rfl) (by kernel_rfl) (fun _ _ _ h => h) (by rfl) ?_ HSS.out ?_
          rotate_left
          · (intro wS hwS; (try dsimp only at hwS); go_simp; try with_reducible rfl)
          simp only [Act.put, List.getElem_toArray, List.getElem_cons_zero, List.getElem_cons_succ, List.setIfInBounds_toArray, List.set_cons_zero, List.set_cons_succ]
          refine wpL_one (i := 16) (by kernel_rfl) rfl (fun K hK => ?_)
          simp only [List.getElem_toArray, List.getElem_cons_zero, List.getElem_cons_succ]
          go_simp
          rw [HW3.out.1, HW3.out.2]
          refine hK.out _ _ (fun _ => HS3.out) ?_
          clear hK K
          try simp only [Act.put, List.getElem_toArray, List.getElem_cons_zero, List.getElem_cons_succ, List.setIfInBounds_toArray, List.set_cons_zero, List.set_cons_succ]
          refine wpL_one (i := 17) (by kernel_rfl) rfl (fun K hK => ?_)
          simp only [List.getElem_toArray, List.getElem_cons_zero, List.getElem_cons_succ]
          go_simp
          rw [HW4.out.1, HW4.out.2.1]
          refine hK.out _ _ (fun _ => HS4.out) ?_
          clear hK K
          try simp only [Act.put, List.getElem_toArray, List.getElem_cons_zero, List.getElem_cons_succ, List.setIfInBounds_toArray, List.set_cons_zero, List.set_cons_succ]
          refine wpL_one (i := 18) (by kernel_rfl) rfl (fun K hK => ?_)
          refine step_append_lies _ (by rfl) _ _ _ (by rfl) Y.B 71 i0 _ 1 8 Ybaf.underlying64 HI0.out.1 HI0.out.2.1 HI0.out.2.2.1 HI0.out.2.2.2 rfl (by omega) vf bs.length (bs.map ptr) (by rfl) H4.out.2.2.2 ⟨pb + 1, 0, none⟩ 1 1 [.pointer (some ⟨pb, 0, none⟩)] (by rfl) (by rfl) (World.news_of_block HW4.out.2.2.2) (by simp [Value.oneCell']) (by omega) (bound_max (by omega)) (by omega) hBs (pb + 1 + 1) HW4.out.2.2.1 ?_
          intro gf cap w5 hown hgrow hat hlt5
          have hs5 : Stay (fun b => vf.ownBlock = some b) W4 w5 := Stay.grown hgrow (fun g e => e)
          obtain ⟨y1, y2, y3, y4⟩ := H4.out
          have hM5 := hs5.at_ y1.m (fun e => by obtain ⟨cur, e2⟩ := y1.fr.block e; exact other_of y1.m e2 (by decide) rfl)
          have hk5 := hs5.at_ y3 (fun e => by obtain ⟨cur, e2⟩ := y1.fr.block e; exact other_of y3 e2 (by decide) rfl)
          have HS5 : Hid ((fun w' : World => w'.cell? ⟨Y.bM, 10, none⟩ = some vf ∧ w'.cell? ⟨kl, 0, none⟩ = some (.int .i64 0) ∧ w'.cell? ⟨kl, 1, none⟩ = some (.int .i64 (lk (I.own i)))) w5) := ⟨cell_in hM5 (o := 10) rfl, cell_in hk5 (o := 0) rfl, cell_in hk5 (o := 1) rfl⟩
          have c10 := cell_in hM5 (o := 10) (u := vf) rfl
          have z10 := free_in hM5 (o := 10)
          have hb6 : Bw Y I w (i + 1) (bs ++ [pb]) (.slice (some ⟨gf, 0, none⟩) (bs.length + 1) cap) u14 (I.wh i) u15 (I.wf i) (w5.setCell ⟨Y.bM, 10, none⟩ (.slice (some ⟨gf, 0, none⟩) (bs.length + 1) cap)) :=
            y1.fly ⟨_, _, _, y2⟩ hs5 (by unfold Row; simpa using hown)
          have hk6 : (w5.setCell ⟨Y.bM, 10, none⟩ (.slice (some ⟨gf, 0, none⟩) (bs.length + 1) cap)).heap[kl]? = some (.cells #[.int .i64 0, .int .i64 (lk (I.own i))] 68 (0, 0)) :=
            (Stay.set (S := fun x => x = Y.bM) w5 Y.bM 10 _ rfl).at_ hk5 (other_of hk5 hM5 (by decide))
          obtain ⟨W6, hW6⟩ : ∃ W, W = w5.setCell ⟨Y.bM, 10, none⟩ (.slice (some ⟨gf, 0, none⟩) (bs.length + 1) cap) := ⟨_, rfl⟩
          rw [← hW6] at hb6 hk6
          have HW6 : Hid (w5.setCell ⟨Y.bM, 10, none⟩ (.slice (some ⟨gf, 0, none⟩) (bs.length + 1) cap) = W6) := hW6.symm
          have H6 : Hid (Bw Y I w (i + 1) (bs ++ [pb]) (.slice (some ⟨gf, 0, none⟩) (bs.length + 1) cap) u14 (I.wh i) u15 (I.wf i) W6 ∧ W6.heap[kl]? = some (.cells #[.int .i64 0, .int .i64 (lk (I.own i))] 68 (0, 0))) := ⟨hb6, hk6⟩
          refine hK.out _ _ (fun _ => HS5.out) ?_
          clear hK K hown hgrow hat hlt5 hs5 y1 y2 y3 y4 hM5 hk5 hb6 hk6 hW6
          try simp only [Act.put, List.getElem_toArray, List.getElem_cons_zero, List.getElem_cons_succ, List.setIfInBounds_toArray, List.set_cons_zero, List.set_cons_succ]
          refine wpU_take (i := 19) (v := ?_) rfl (by kernel_rfl) (by kernel_rfl) (by kernel_rfl) (by kernel_rfl) (fun _ _ _ h => h) (by rfl) ?_ HS5.out ?_
          rotate_left
          · (intro wS hwS; (try dsimp only at hwS); go_simp; try with_reducible rfl)
          simp only [Act.put, List.getElem_toArray, List.getElem_cons_zero, List.getElem_cons_succ, List.setIfInBounds_toArray, List.set_cons_zero, List.set_cons_succ]
          refine wpU_take (i := 20) (v := ?_) rfl (by kernel_rfl) (by kernel_rfl) (by kernel_rfl) (by kernel_rfl) (fun _ _ _ h => h) (by rfl) ?_ HS5.out ?_
          rotate_left
          · (intro wS hwS; (try dsimp only at hwS); go_simp; try with_reducible rfl)
          simp only [Act.put, List.getElem_toArray, List.getElem_cons_zero, List.getElem_cons_succ, List.setIfInBounds_toArray, List.set_cons_zero, List.set_cons_succ]
          refine wpL_one (i := 21) (by kernel_rfl) rfl (fun K hK => ?_)
          simp only [List.getElem_toArray, List.getElem_cons_zero, List.getElem_cons_succ]
          go_simp
          rw [HW6.out]
          refine hK.out _ _ (fun h => absurd rfl h) ?_
          clear hK K
          refine wpL_done (by kernel_rfl) ?_ _
          clear c10 z10 HW6 HS5 HS4 HS3 HSS HW3 HW4 H4 HI0 wi wi1 wi2
          go_upto_region 19 with (fail)
          go_cut [1, 31, 34, 96] (fun s1 s31 s34 s96 wx => s1 = .bool I.keep ∧ s31 = .bool I.keep ∧ s34 = .agg #[.slice none 0 0, .map none, .bool I.keep, .float .f64 0, .int .i32 0, .int .u32 0, .slice (some ⟨Y.bP, 0, none⟩) 3 3, .pointer none, .int .u64 0, .int .u64 0, .slice none 0 0, .slice none 0 0, .slice none 0 0, .map (some Y.r)] ∧ s96 = .bool (I.go i) ∧ wx = W6)
          case first =>
            have k0 := cell_in H6.out.1.ko (o := 0) (u := .int .i64 0) rfl
            have k1 := cell_in H6.out.1.ko (o := 1) (u := .int .i64 1) rfl
            have c0 := cell_in H6.out.2 (o := 0) (u := .int .i64 0) rfl
            have c1 := cell_in H6.out.2 (o := 1) (u := .int .i64 (lk (I.own i))) rfl
            have heq : ∀ W : World, (binOp .eql 68 (.agg #[.int .i64 0, .int .i64 (lk (I.own i))]) (.agg #[.int .i64 0, .int .i64 1])).run Ybaf.prog W = .ok (.bool (I.own i)) W := fun W => by cases I.own i <;> kernel_rfl
            have HG : Hid (I.go i = (I.keep && (I.own i && decide (I.id < I.ids i)))) := rfl
            cases hk : I.keep with
            | false =>
              have HK : Hid (I.keep = false) := hk
              clear hk
              go_wp2_with fail
              go_meet
              exact ⟨by rw [HK.out], by rw [HK.out], by rw [HK.out], by rw [HG.out, HK.out]; rfl, rfl⟩
            | true =>
              have HK : Hid (I.keep = true) := hk
              clear hk
              cases ho : I.own i with
              | false =>
                have HO : Hid (I.own i = false) := ho
                rw [ho] at c1 heq
                clear ho
                go_wp2_with fail
                go_meet
                exact ⟨by rw [HK.out], by rw [HK.out], by rw [HK.out], by rw [HG.out, HK.out, HO.out]; rfl, rfl⟩
              | true =>
                have HO : Hid (I.own i = true) := ho
                rw [ho] at c1 heq
                clear ho
                go_wp2_with fail
                go_meet
                exact ⟨by rw [HK.out], by rw [HK.out], by rw [HK.out], by rw [HG.out, HK.out, HO.out]; rfl, rfl⟩
          case rest =>
            obtain ⟨rfl, rfl, rfl, rfl, hwc⟩ := hcut
            subst hwc
            go_upto_if 96 with fail
            obtain ⟨i0, hi0, hz0, hz1, hz2⟩ := info_parts Ybaf.info26
            have HI0 : Hid (Ybaf.prog.info? 26 = some i0 ∧ i0.zero = some (.int .u64 0) ∧ i0.size = 1 ∧ i0.bytes = 8) := ⟨hi0, hz0, hz1, hz2⟩
            clear hi0 hz0 hz1 hz2
            have hwh := I.wh_le i
            have hwf := I.wf_le i
            have hBs : Y.B ≤ wc.heap.size := by have := H6.out.1.bM; have := lt_of H6.out.1.m; omega
            have HR6 : Hid (wc.ownsRow Y.B 26 1 u14 (I.wh i).length ((I.wh i).map (Value.int .u64)) ∧ wc.ownsRow Y.B 26 1 u15 (I.wf i).length ((I.wf i).map (Value.int .u64))) := ⟨H6.out.1.rh, H6.out.1.rf⟩
            cases hgo : I.go i with
            | true =>
              have HGO : Hid (I.go i = true) := hgo
              clear hgo
              go_wp2_with (at_builtin; refine wpList_append_lies _ (by rfl) _ _ _ (by rfl) Y.B 26 i0 _ 1 8 Ybaf.underlying46 HI0.out.1 HI0.out.2.1 HI0.out.2.2.1 HI0.out.2.2.2 rfl (by omega) u14 (I.wh i).length ((I.wh i).map (Value.int .u64)) (by rfl) (HR6.out.1.alloc _) ⟨wc.heap.size, 0, none⟩ 1 1 [.int .u64 (I.ids i)] (by rfl) (by rfl) (World.news_of_block (cs := #[.int .u64 (I.ids i)]) (t := 26) (fr := (0, 0)) (heap_alloc_new wc _)) (by simp [Value.oneCell']) (by omega) (bound_max (by omega)) (by omega) (by rw [World.size_alloc]; omega) (wc.heap.size + 1) (by simp) ?_; intro gg cp w7 hown hgrow hat hlt9; have HP : Hid (Bw Y I w (i + 1) (bs ++ [pb]) (.slice (some ⟨gf, 0, none⟩) (bs.length + 1) cap) (.slice (some ⟨gg, 0, none⟩) ((I.wh i).length + 1) cp) (I.wh i ++ [I.ids i]) u15 (I.wf i) w7) := H6.out.1.more1 hown hgrow hat; clear hown hgrow hat hlt9)
              go_roundw
              case rel => exact ⟨i + 1, _, _, by omega, by go_num, by rw [Li.wh_go HGO.out, Li.wf_go HGO.out]; exact HP.out⟩
              case measure => simp [intOf]; omega
            | false =>
              have HGO : Hid (I.go i = false) := hgo
              clear hgo
              go_wp2_with (at_builtin; refine wpList_append_lies _ (by rfl) _ _ _ (by rfl) Y.B 26 i0 _ 1 8 Ybaf.underlying46 HI0.out.1 HI0.out.2.1 HI0.out.2.2.1 HI0.out.2.2.2 rfl (by omega) u15 (I.wf i).length ((I.wf i).map (Value.int .u64)) (by rfl) (HR6.out.2.alloc _) ⟨wc.heap.size, 0, none⟩ 1 1 [.int .u64 (I.ids i)] (by rfl) (by rfl) (World.news_of_block (cs := #[.int .u64 (I.ids i)]) (t := 26) (fr := (0, 0)) (heap_alloc_new wc _)) (by simp [Value.oneCell']) (by omega) (bound_max (by omega)) (by omega) (by rw [World.size_alloc]; omega) (wc.heap.size + 1) (by simp) ?_; intro gg cp w7 hown hgrow hat hlt9; have HP : Hid (Bw Y I w (i + 1) (bs ++ [pb]) (.slice (some ⟨gf, 0, none⟩) (bs.length + 1) cap) u14 (I.wh i) (.slice (some ⟨gg, 0, none⟩) ((I.wf i).length + 1) cp) (I.wf i ++ [I.ids i]) w7) := H6.out.1.more2 hown hgrow hat; clear hown hgrow hat hlt9)
              go_roundw
              case rel => exact ⟨i + 1, _, _, by omega, by go_num, by rw [Li.wh_no HGO.out, Li.wf_no HGO.out]; exact HP.out⟩
              case measure => simp [intOf]; omega
    · have hie : i = il := by omega
      subst hie
      clear hlt hi
      have k0 := cell_in hb.ko (o := 0) (u := .int .i64 0) rfl
      have k1 := cell_in hb.ko (o := 1) (u := .int .i64 1) rfl
      obtain ⟨pc, hpc⟩ : ∃ x, wr.heap.size = x := ⟨_, rfl⟩
      obtain ⟨W1, hW1⟩ : ∃ W, W = wr.alloc (.cells (pendA I.id ⟨#[98]⟩ (lk true) 1 0) 75) := ⟨_, rfl⟩
      have hs1 : Stay (fun _ => False) wr W1 := by rw [hW1]; exact Stay.alloc _ _ _
      have hp1 : W1.heap[pc]? = some (.cells (pendA I.id ⟨#[98]⟩ (lk true) 1 0) 75 (0, 0)) := by rw [hW1, ← hpc]; exact heap_alloc_new wr _
      have hb1 := hb.idle hs1
      have hw1 := hb1.hw hp1
      have cM := cell_in hb1.m (o := 4) (u := .int .i32 0) rfl
      have zM := free_in hb1.m (o := 4)
      obtain ⟨W2, hW2⟩ : ∃ W, W = W1.setCell ⟨Y.bM, 4, none⟩ (.int .i32 1) := ⟨_, rfl⟩
      have HLK : Hid (Calls Ybaf.prog 16 #[.pointer (some ⟨Y.bM, 4, none⟩)] W1 fun e w' => e = .returned (.tuple #[]) ∧ w' = W2) := by
        have := lock_free Ybaf.muLib ⟨Y.bM, 4, none⟩ W1 cM zM
        rw [← hW2] at this
        exact this
      have hs2 : Stay (fun b => b = Y.bM) W1 W2 := by rw [hW2]; exact Stay.set _ _ _ _ rfl
      have hw2 : Hw (Y.pc I W1 bs pc) 1 vf bs (.slice none 0 0) [] 0 W2 := by rw [hW2]; exact hw1.lock 1
      have hP2 : W2.heap[Y.bP]? = some (.cells #[.nilFunc, .int .i64 0, .bool false, .nilFunc, .int .i64 0, .bool false, .nilFunc, .int .i64 0, .bool false] 92 (0, 0)) := hs2.at_ hb1.hP (other_of hb1.hP hb1.m (by decide))
      have HOV : Hid (Calls Ybaf.prog 17 #[.pointer (some ⟨Y.bM, 0, none⟩), .pointer (some ⟨pc, 0, none⟩)] W2 fun e w' => (∃ a, e = .returned (.iface 118 (.pointer (some a)))) ∧ ∃ X vf' fl vh hl, Ew Y I w i X vf' fl vh hl u14 (I.wh i) u15 (I.wf i) w' ∧ fl.length + hl.length = i + 1) := by
        have h9 := over_hold F (by rw [hs2.tape, hb1.bel.tape]; exact HX.out.1) hw2 (by have := hb1.len; simp only [List.length_nil]; omega) (by have := hb1.len; omega) (fun s t _ ht => (by simp at ht)) pc (.inr rfl) (ownAt_of hp1) Y.bP rfl hP2
        refine h9.mono ?_
        rintro e w' ⟨q1, q2⟩
        exact ⟨q1, _, hb1.ew hp1 hs2 q2⟩
      have HW1 : Hid (wr.alloc (.cells #[.int .u64 I.id, .string ⟨#[97]⟩, .string ⟨#[98]⟩, .slice none 0 0, .int .i64 0, .int .i64 1, .int .u64 1, .int .u64 0] 75) = W1 ∧ wr.heap.size = pc) := ⟨hW1.symm, hpc⟩
      have HBM : Hid (Y.B ≤ Y.bM) := hb.bM
      clear hpc hW1 hs1 hp1 hb1 hw1 cM zM hW2 hs2 hw2 hP2 hb
      go_upto_region 24 with (fail)
      rw [HW1.out.1, HW1.out.2]
      clear k0 k1 HW1
      go_upto_region 26 with (first | (go_at_call 16; refine HLK.out.mono ?_; rintro _ wx ⟨rfl, hwx⟩; rw [hwx]; clear hwx wx) | (go_at_call 17; refine HOV.out.mono ?_; rintro _ w9 ⟨⟨ea, rfl⟩, hov⟩; have HEV : Hid (∃ X vf' fl vh hl, Ew Y I w i X vf' fl vh hl u14 (I.wh i) u15 (I.wf i) w9 ∧ fl.length + hl.length = i + 1) := hov; clear hov))
      obtain ⟨X, vf', fl, vh, hl, hE, hlen⟩ := HEV.out
      have hM := hE.M
      have cM := cell_in hE.hw.m (o := 4) (u := .int .i32 0) rfl
      have zM := free_in hE.hw.m (o := 4)
      rw [hM] at cM zM
      obtain ⟨WT, hWT⟩ : ∃ W, W = w9.setCell ⟨Y.bM, 4, none⟩ (.int .i32 1) := ⟨_, rfl⟩
      have HTR : Hid (Calls Ybaf.prog 18 #[.pointer (some ⟨Y.bM, 4, none⟩)] w9 fun e w' => e = .returned (.bool true) ∧ w' = WT) := by
        have := try_free ⟨Y.bM, 4, none⟩ w9 cM zM
        rw [← hWT] at this
        exact this
      have hEl := hE.lock HBM.out
      have hw10 := hE.hw.lock 1
      rw [hM] at hEl hw10
      rw [← hWT] at hEl hw10
      have cT := cell_in hw10.m (o := 4) (u := .int .i32 1) rfl
      have zT := free_in hw10.m (o := 4)
      rw [hM] at cT zT
      obtain ⟨WU, hWU⟩ : ∃ W, W = WT.setCell ⟨Y.bM, 4, none⟩ (.int .i32 0) := ⟨_, rfl⟩
      have HUL : Hid (Calls Ybaf.prog 19 #[.pointer (some ⟨Y.bM, 4, none⟩)] WT fun e w' => e = .returned (.tuple #[]) ∧ w' = WU) := by
        have := unlock_held Ybaf.muLib ⟨Y.bM, 4, none⟩ WT cT zT
        rw [← hWU] at this
        exact this
      rw [← hWU] at hEl
      have c11 := cell_in hEl.hw.m (o := 11) (u := vh) rfl
      rw [hM] at c11
      obtain ⟨ah, ch, hvh, hah⟩ := hEl.hw.hr.any
      have hln : hl.length = (I.wh i).length := by
        have := congrArg List.length hEl.eh
        rw [srt_length] at this
        simpa using this.symm
      obtain ⟨nh, hnh⟩ : ∃ x, (I.wh i).length = x := ⟨_, rfl⟩
      have hnh2 : nh ≤ 513 := by have := I.wh_le i; omega
      rw [hln, hnh] at hvh
      rw [hvh] at c11
      have HE : Hid (Ew Y I w i X vf' fl vh hl u14 (I.wh i) u15 (I.wf i) WU ∧ hl.length = nh ∧ (I.wh i).length = nh ∧ fl.length ≤ 513 ∧ ∀ t, t < nh → ∃ g, ah = some ⟨g, 0, none⟩ ∧ WU.cell? ⟨g, t, none⟩ = some (ptr hl[t]!)) := ⟨hEl, by omega, hnh, by omega, fun t ht => hah t (by omega)⟩
      have heg : ∀ W : World, (eqGuard .eql 39 (.tmp 118) (.const .nilIface) (.iface 118 (.pointer (some ea))) .nilIface).run Ybaf.prog W = .ok () W := fun W => by kernel_rfl
      have hneq : ∀ W : World, (binOp .eql 39 (.iface 118 (.pointer (some ea))) .nilIface).run Ybaf.prog W = .ok (.bool false) W := fun W => by kernel_rfl
      clear hE hM cM zM hWT hEl hw10 cT zT hWU hvh hah hln hnh hlen HEV HOV HLK HB0
      go_upto_region 31 with (first | (go_at_call 18; refine HTR.out.mono ?_; rintro _ wx ⟨rfl, hwx⟩; rw [hwx]; clear hwx wx) | (go_at_call 19; refine HUL.out.mono ?_; rintro _ wx ⟨rfl, hwx⟩; rw [hwx]; clear hwx wx))
      clear heg hneq HTR HUL
      go_wp2
      clear c11
      go_loopw [22, 134] (fun vg q wq => ∃ j : Nat, j ≤ nh ∧ q = .int .i64 j ∧ Stay (fun _ => False) WU wq ∧ wq.ownsRow WU.heap.size 26 1 vg j (((hl.map X.idf).take j).map (Value.int .u64))) (fun _ q _ => nh - (intOf q).toNat)
      case atStart => exact ⟨0, Nat.zero_le _, rfl, Stay.refl _ _, World.ownsRow_nil _ _ _ _⟩
      case round =>
        obtain ⟨j, hj, rfl, hst, hrow⟩ := hrel
        by_cases hlt2 : j < nh
        · obtain ⟨g, hag, hcell⟩ := HE.out.2.2.2.2 j hlt2
          have hjl : j < hl.length := by rw [HE.out.2.1]; exact hlt2
          have hmem : hl[j]! ∈ hl := by rw [getElem!_pos hl j hjl]; exact List.getElem_mem hjl
          have hidc := HE.out.1.hw.id (HE.out.1.hw.sh _ hmem)
          rw [← hst.cell (a := ⟨hl[j]!, 0, none⟩) (World.block_lt_of_cell? _ _ hidc) (fun e => e)] at hidc
          rw [← hst.cell (a := ⟨g, j, none⟩) (World.block_lt_of_cell? _ _ hcell) (fun e => e)] at hcell
          have HT : Hid (((hl.map X.idf).take (j + 1)).map (Value.int .u64) = ((hl.map X.idf).take j).map (Value.int .u64) ++ [.int .u64 (X.idf hl[j]!)]) := by
            show _ = _
            rw [List.take_add_one, getElem!_pos hl j hjl]
            simp [hjl]
          obtain ⟨pj, hpj⟩ : ∃ x, x = hl[j]! := ⟨_, rfl⟩
          rw [← hpj] at hidc hcell
          rw [← hpj] at HT
          obtain ⟨i0, hi0, hz0, hz1, hz2⟩ := info_parts Ybaf.info26
          have HI0 : Hid (Ybaf.prog.info? 26 = some i0 ∧ i0.zero = some (.int .u64 0) ∧ i0.size = 1 ∧ i0.bytes = 8) := ⟨hi0, hz0, hz1, hz2⟩
          have HRW : Hid (wr.ownsRow WU.heap.size 26 1 u22 j (((hl.map X.idf).take j).map (Value.int .u64)) ∧ Stay (fun _ => False) WU wr) := ⟨hrow, hst⟩
          have hBs : WU.heap.size ≤ wr.heap.size := hst.size
          subst hag
          clear hi0 hz0 hz1 hz2 hst hrow hmem hpj hjl
          go_wp2_with (at_builtin; refine wpList_append_lies _ (by rfl) _ _ _ (by rfl) WU.heap.size 26 i0 _ 1 8 Ybaf.underlying46 HI0.out.1 HI0.out.2.1 HI0.out.2.2.1 HI0.out.2.2.2 rfl (by omega) u22 j (((hl.map X.idf).take j).map (Value.int .u64)) (by rfl) (HRW.out.1.alloc _) ⟨wr.heap.size, 0, none⟩ 1 1 [.int .u64 (X.idf pj)] (by rfl) (by rfl) (World.news_of_block (cs := #[.int .u64 (X.idf pj)]) (t := 26) (fr := (0, 0)) (heap_alloc_new wr _)) (by simp [Value.oneCell']) (by omega) (bound_max (by omega)) (by omega) (by rw [World.size_alloc]; omega) (wr.heap.size + 1) (by simp) ?_; intro gg cp w7 hown hgrow hat hlt9; have HP : Hid (Stay (fun _ => False) WU w7 ∧ w7.ownsRow WU.heap.size 26 1 (.slice (some ⟨gg, 0, none⟩) (j + 1) cp) (j + 1) (((hl.map X.idf).take j).map (Value.int .u64) ++ [.int .u64 (X.idf pj)])) := ⟨HRW.out.2.trans' ((Stay.alloc (fun b => u22.ownBlock = some b) wr _).trans (Stay.grown hgrow (fun g e => e))) (fun b hb e => absurd (HRW.out.1.lt b e).1 (by omega)), hown⟩; clear hown hgrow hat hlt9)
          go_roundw
          case rel => exact ⟨j + 1, by omega, by go_num, HP.out.1, by rw [HT.out]; exact HP.out.2⟩
          case measure => simp [intOf]; omega
        · have hje : j = nh := by omega
          subst hje
          have hvg : wr.ownsRow WU.heap.size 26 1 u22 j ((hl.map X.idf).map (Value.int .u64)) := by
            rw [List.take_of_length_le (by rw [List.length_map, HE.out.2.1]; exact Nat.le_refl _)] at hrow
            exact hrow
          have hEa := HE.out.1.idle hst
          have hBw : Y.B ≤ WU.heap.size := by have h1 := HE.out.1.hB; have h2 := HE.out.1.bel.size; omega
          have HSO : Hid (Calls Ybaf.prog 20 #[u14] wr fun e w' => e = .returned (.tuple #[]) ∧ Ew Y I w i X vf' fl vh hl u14 (srt (I.wh i)) u15 (I.wf i) w' ∧ w'.ownsRow Y.B 26 1 u22 j ((hl.map X.idf).map (Value.int .u64))) := by
            refine (sort_row hEa.rh (by have := HE.out.2.2.1; omega)).mono ?_
            rintro e w' ⟨rfl, a1, a2⟩
            exact ⟨rfl, hEa.sorted hEa.rh a2 a1 (a2.row hEa.rf (fun g hg e => hEa.ap g e hg)), own_base (a2.row hvg (fun g hg e => by have h1 := (hvg.lt g hg).1; have h2 := (HE.out.1.rh.lt g e).2; omega)) hBw⟩
          have HLE : Hid (hl.length = j ∧ (I.wh i).length = j ∧ fl.length ≤ 513) := ⟨HE.out.2.1, HE.out.2.2.1, HE.out.2.2.2.1⟩
          clear hvg hEa hBw hst hrow HE
          go_upto_region 38 with (go_at_call 20; refine HSO.out.mono ?_; rintro _ wb ⟨rfl, hb1, hb2⟩; have HEB : Hid (Ew Y I w i X vf' fl vh hl u14 (srt (I.wh i)) u15 (I.wf i) wb ∧ wb.ownsRow Y.B 26 1 u22 j ((hl.map X.idf).map (Value.int .u64))) := ⟨hb1, hb2⟩; clear hb1 hb2)
          have HEQ : Hid (Calls Ybaf.prog 21 #[u22, u14] wb fun e w' => e = .returned (.bool true) ∧ Stay (fun _ => False) wb w') := by
            have h1 := HEB.out.1.rh
            rw [HEB.out.1.eh, HLE.out.2.1] at h1
            exact equal_same HEB.out.2 h1 (by omega)
          clear HSO
          go_upto_region 40 with (go_at_call 21; refine HEQ.out.mono ?_; rintro _ wd ⟨rfl, hsd⟩; have HED : Hid (Ew Y I w i X vf' fl vh hl u14 (srt (I.wh i)) u15 (I.wf i) wd) := HEB.out.1.idle hsd; clear hsd)
          clear HEQ HEB
          have hEd := HED.out
          have c10 := cell_in hEd.hw.m (o := 10) (u := vf') rfl
          rw [hEd.M] at c10
          obtain ⟨af, cf, hvf, haf⟩ := hEd.hw.fr.any
          obtain ⟨nf, hnf⟩ : ∃ x, fl.length = x := ⟨_, rfl⟩
          rw [hnf] at hvf haf
          rw [hvf] at c10
          have hnf2 : nf ≤ 513 := by have := HLE.out.2.2; omega
          have HF : Hid (fl.length = nf ∧ ∀ t, t < nf → ∃ g, af = some ⟨g, 0, none⟩ ∧ wd.cell? ⟨g, t, none⟩ = some (ptr fl[t]!)) := ⟨hnf, haf⟩
          clear hEd hvf haf hnf
          go_wp2
          clear c10
          go_loopw [25, 158] (fun vg q wq => ∃ k : Nat, k ≤ nf ∧ q = .int .i64 k ∧ Stay (fun _ => False) wd wq ∧ wq.ownsRow wd.heap.size 26 1 vg k (((fl.map X.idf).take k).map (Value.int .u64))) (fun _ q _ => nf - (intOf q).toNat)
          case atStart => exact ⟨0, Nat.zero_le _, rfl, Stay.refl _ _, World.ownsRow_nil _ _ _ _⟩
          case round =>
            obtain ⟨k, hk, rfl, hst, hrow⟩ := hrel
            by_cases hlt2 : k < nf
            · obtain ⟨g, hag, hcell⟩ := HF.out.2 k hlt2
              have hjl : k < fl.length := by rw [HF.out.1]; exact hlt2
              have hmem : fl[k]! ∈ fl := by rw [getElem!_pos fl k hjl]; exact List.getElem_mem hjl
              have hidc := HED.out.hw.id (HED.out.hw.sf _ hmem)
              rw [← hst.cell (a := ⟨fl[k]!, 0, none⟩) (World.block_lt_of_cell? _ _ hidc) (fun e => e)] at hidc
              rw [← hst.cell (a := ⟨g, k, none⟩) (World.block_lt_of_cell? _ _ hcell) (fun e => e)] at hcell
              have HT : Hid (((fl.map X.idf).take (k + 1)).map (Value.int .u64) = ((fl.map X.idf).take k).map (Value.int .u64) ++ [.int .u64 (X.idf fl[k]!)]) := by
                show _ = _
                rw [List.take_add_one, getElem!_pos fl k hjl]
                simp [hjl]
              obtain ⟨pj, hpj⟩ : ∃ x, x = fl[k]! := ⟨_, rfl⟩
              rw [← hpj] at hidc hcell
              rw [← hpj] at HT
              obtain ⟨i0, hi0, hz0, hz1, hz2⟩ := info_parts Ybaf.info26
              have HI0 : Hid (Ybaf.prog.info? 26 = some i0 ∧ i0.zero = some (.int .u64 0) ∧ i0.size = 1 ∧ i0.bytes = 8) := ⟨hi0, hz0, hz1, hz2⟩
              have HRW : Hid (wr.ownsRow wd.heap.size 26 1 u25 k (((fl.map X.idf).take k).map (Value.int .u64)) ∧ Stay (fun _ => False) wd wr) := ⟨hrow, hst⟩
              have hBs : wd.heap.size ≤ wr.heap.size := hst.size
              subst hag
              clear hi0 hz0 hz1 hz2 hst hrow hmem hpj hjl
              go_wp2_with (at_builtin; refine wpList_append_lies _ (by rfl) _ _ _ (by rfl) wd.heap.size 26 i0 _ 1 8 Ybaf.underlying46 HI0.out.1 HI0.out.2.1 HI0.out.2.2.1 HI0.out.2.2.2 rfl (by omega) u25 k (((fl.map X.idf).take k).map (Value.int .u64)) (by rfl) (HRW.out.1.alloc _) ⟨wr.heap.size, 0, none⟩ 1 1 [.int .u64 (X.idf pj)] (by rfl) (by rfl) (World.news_of_block (cs := #[.int .u64 (X.idf pj)]) (t := 26) (fr := (0, 0)) (heap_alloc_new wr _)) (by simp [Value.oneCell']) (by omega) (bound_max (by omega)) (by omega) (by rw [World.size_alloc]; omega) (wr.heap.size + 1) (by simp) ?_; intro gg cp w7 hown hgrow hat hlt9; have HP : Hid (Stay (fun _ => False) wd w7 ∧ w7.ownsRow wd.heap.size 26 1 (.slice (some ⟨gg, 0, none⟩) (k + 1) cp) (k + 1) (((fl.map X.idf).take k).map (Value.int .u64) ++ [.int .u64 (X.idf pj)])) := ⟨HRW.out.2.trans' ((Stay.alloc (fun b => u25.ownBlock = some b) wr _).trans (Stay.grown hgrow (fun g e => e))) (fun b hb e => absurd (HRW.out.1.lt b e).1 (by omega)), hown⟩; clear hown hgrow hat hlt9)
              go_roundw
              case rel => exact ⟨k + 1, by omega, by go_num, HP.out.1, by rw [HT.out]; exact HP.out.2⟩
              case measure => simp [intOf]; omega
            · have hje : k = nf := by omega
              subst hje
              have hvg : wr.ownsRow wd.heap.size 26 1 u25 k ((fl.map X.idf).map (Value.int .u64)) := by
                rw [List.take_of_length_le (by rw [List.length_map, HF.out.1]; exact Nat.le_refl _)] at hrow
                exact hrow
              have hEa := HED.out.idle hst
              have hBw : Y.B ≤ wd.heap.size := by have h1 := HED.out.hB; have h2 := HED.out.bel.size; omega
              have HLT : Hid (∀ g, u15.ownBlock = some g → g < wd.heap.size) := fun g hg => (HED.out.rf.lt g hg).2
              have HSO : Hid (Calls Ybaf.prog 20 #[u25] wr fun e w' => e = .returned (.tuple #[]) ∧ Ew Y I w i X vf' fl vh hl u14 (srt (I.wh i)) u15 (I.wf i) w' ∧ w'.ownsRow wd.heap.size 26 1 u25 k ((srt (fl.map X.idf)).map (Value.int .u64))) := by
                refine (sort_row hvg (by omega)).mono ?_
                rintro e w' ⟨rfl, a1, a2⟩
                exact ⟨rfl, hEa.sorted (own_base hvg hBw) a2 (a2.row hEa.rh (fun g hg e => by have h1 := (hvg.lt g e).1; have h2 := (HED.out.rh.lt g hg).2; omega)) (a2.row hEa.rf (fun g hg e => by have h1 := (hvg.lt g e).1; have h2 := (HED.out.rf.lt g hg).2; omega)), a1⟩
              have hlf : (I.wf i).length = k := by
                have h1 := congrArg List.length HED.out.ef
                rw [srt_length, srt_length, List.length_map, HF.out.1] at h1
                exact h1.symm
              have HLF : Hid ((I.wf i).length = k ∧ Y.B ≤ wd.heap.size) := ⟨hlf, hBw⟩
              clear hvg hEa hBw hst hrow HED HF hlf
              go_upto_region 47 with (go_at_call 20; refine HSO.out.mono ?_; rintro _ we ⟨rfl, hb1, hb2⟩; have HEE : Hid (Ew Y I w i X vf' fl vh hl u14 (srt (I.wh i)) u15 (I.wf i) we ∧ we.ownsRow wd.heap.size 26 1 u25 k ((srt (fl.map X.idf)).map (Value.int .u64))) := ⟨hb1, hb2⟩; clear hb1 hb2)
              have HSP : Hid (Calls Ybaf.prog 20 #[u15] we fun e w' => e = .returned (.tuple #[]) ∧ Ew Y I w i X vf' fl vh hl u14 (srt (I.wh i)) u15 (srt (I.wf i)) w' ∧ w'.ownsRow Y.B 26 1 u25 k ((srt (fl.map X.idf)).map (Value.int .u64))) := by
                refine (sort_row HEE.out.1.rf (by have := HLF.out.1; omega)).mono ?_
                rintro e w' ⟨rfl, a1, a2⟩
                exact ⟨rfl, HEE.out.1.sorted HEE.out.1.rf a2 (a2.row HEE.out.1.rh (fun g hg e => HEE.out.1.ap g hg e)) a1, own_base (a2.row HEE.out.2 (fun g hg e => by have h1 := (HEE.out.2.lt g hg).1; have h2 := HLT.out g e; omega)) HLF.out.2⟩
              clear HSO
              go_upto_region 48 with (go_at_call 20; refine HSP.out.mono ?_; rintro _ wf ⟨rfl, hb1, hb2⟩; have HEF : Hid (Ew Y I w i X vf' fl vh hl u14 (srt (I.wh i)) u15 (srt (I.wf i)) wf ∧ wf.ownsRow Y.B 26 1 u25 k ((srt (fl.map X.idf)).map (Value.int .u64))) := ⟨hb1, hb2⟩; clear hb1 hb2)
              have HEQ : Hid (Calls Ybaf.prog 21 #[u25, u15] wf fun e w' => e = .returned (.bool true) ∧ Stay (fun _ => False) wf w') := by
                have h1 := HEF.out.1.rf
                rw [← HEF.out.1.ef, HLF.out.1] at h1
                exact equal_same HEF.out.2 h1 (by omega)
              clear HSP HEE
              go_upto_region 50 with (go_at_call 21; refine HEQ.out.mono ?_; rintro _ wz ⟨rfl, hsz⟩; have HEZ : Hid (Ew Y I w i X vf' fl vh hl u14 (srt (I.wh i)) u15 (srt (I.wf i)) wz) := HEF.out.1.idle hsz; clear hsz)
              clear HEQ HEF
              have hEz := HEZ.out
              have hj1 : 0 < j := by have := HLE.out.2.1; unfold Li.wh at this; simp at this; omega
              have d3 := cell_in hEz.hw.l1 (o := 3) (u := .int .i64 ((I.wh i).length : Int)) rfl
              have d2 := cell_in hEz.hw.l1 (o := 2) (u := .int .u64 0) rfl
              have f3 := cell_in hEz.hw.l2 (o := 3) (u := .int .i64 0) rfl
              have f2 := cell_in hEz.hw.l2 (o := 2) (u := .int .u64 0) rfl
              have c12 := cell_in hEz.hw.m (o := 12) (u := .slice none 0 0) rfl
              rw [hEz.N1] at d3 d2
              rw [hEz.N2] at f3 f2
              rw [hEz.M] at c12
              rw [HLE.out.2.1] at d3
              have hr := hEz.rh
              rw [HLE.out.2.1] at hr
              obtain ⟨_, hr2⟩ := numRow hr
              have HBZ : Hid (Below w.heap.size w wz) := hEz.bel
              rcases hr2 with ⟨_, h0⟩ | ⟨g, cp, cur, rfl, _⟩
              · omega
              clear hEz hr HEZ
              go_wp2
              go_ret
              exact ⟨rfl, HBZ.out⟩
end Go.Proofs.YbulkcoecFmt
