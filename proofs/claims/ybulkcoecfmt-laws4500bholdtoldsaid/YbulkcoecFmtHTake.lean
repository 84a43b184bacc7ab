import Derived.Test.YbulkcoecFmtHDelFn
import Derived.Test.YbulkcoecFmtHInit
import Derived.Test.YbulkcoecFmtHHold
namespace Go.Proofs.YbulkcoecFmt
open Go.RowKit Go.Deep
set_option linter.unusedVariables false
set_option linter.unusedSimpArgs false

set_option maxRecDepth 100000 in
set_option maxHeartbeats 4000000 in
theorem index_nil (f : Value) (w : World) : Calls Ybaf.prog 132 #[.slice none 0 0, f] w fun e w' => e = .returned (.int .i64 (-1)) ∧ w' = w := by
  go_enter Ybaf.func132, Ybaf.ntmps132
  go_wp2
  go_loopw [8] (fun va wr => va = .int .i64 0 ∧ wr = w) (fun _ _ => 0)
  case atStart => exact ⟨rfl, rfl⟩
  case round =>
    obtain ⟨rfl, rfl⟩ := hrel
    go_wp2
    go_ret
    exact ⟨rfl, rfl⟩

set_option maxRecDepth 100000 in
set_option maxHeartbeats 4000000 in
theorem delete_nil (f : Value) (w : World) : Calls Ybaf.prog 119 #[.slice none 0 0, f] w fun e w' => e = .returned (.slice none 0 0) ∧ w' = w := by
  go_enter Ybaf.func119, Ybaf.ntmps119
  go_wp2_with fail
  refine (index_nil f w).mono ?_
  rintro e wz ⟨rfl, hwz⟩
  rw [hwz]
  clear hwz
  go_wp2_with fail
  go_ret
  exact ⟨rfl, rfl⟩

theorem Hw.turn {X : Pc} {mu : Int} {vf vh : Value} {fl fl' hl : List Nat} {h1 : Nat} {w w' : World} {g : Nat} (h : Hw X mu vf fl vh hl h1 w) (hs : Stay (fun x => x = g) w w') (hg : vf.ownBlock = some g) (hr : Row X.B vf fl' w') (hp : ∀ b, b ∈ fl' → X.ps b) : Hw X mu vf fl' vh hl h1 w' := by
  have ap := h.apartF hg
  exact ⟨hs.at_ h.m ap.M.symm, hs.at_ h.mp ap.r.symm, hs.at_ h.l1 ap.n1.symm, hs.at_ h.l2 ap.n2.symm, h.n12, hr, h.hr.stay hs (fun x hx e => h.ap g hg (by rw [hx, e])), h.ap, fun b hb => by
    obtain ⟨tt, sq, du, e⟩ := h.pd b hb
    exact ⟨tt, sq, du, hs.at_ e (fun e2 => ap.p b hb e2.symm)⟩, hp, h.sh, Nat.le_trans h.hB hs.size⟩

theorem Hw.pok {X : Pc} {mu : Int} {vf vh : Value} {fl hl : List Nat} {h1 : Nat} {w : World} (h : Hw X mu vf fl vh hl h1 w) {b : Nat} (hb : X.ps b) : Pok w b := by
  obtain ⟨tt, sq, du, e⟩ := h.pd b hb
  exact ⟨_, _, _, e, rfl, rfl⟩

/-- What takeFlying leaves. -/
structure Taken (X : Pc) (mu : Int) (vf : Value) (fl : List Nat) (vh : Value) (hl : List Nat) (h1 : Nat) (y : Int) (w : World) (vt : Value) (vf' : Value) (fl' : List Nat) (w' : World) : Prop where
  hw : Hw X mu vf' fl' vh hl h1 w'
  tr : Row X.B vt (fl.filter (pk X y)) w'
  pf : fl'.Perm (fl.filter (fun b => !pk X y b))
  nw : ∀ x, vt.ownBlock = some x → w.heap.size ≤ x
  st : Stay (fun x => x = X.bM ∨ vf.ownBlock = some x) w w'
  ob : vf'.ownBlock = vf.ownBlock

set_option maxRecDepth 100000 in
set_option maxHeartbeats 8000000 in
/-- takeFlying. -/
theorem take_any {X : Pc} {mu : Int} {vf vh : Value} {fl hl : List Nat} {h1 : Nat} {w : World} (h : Hw X mu vf fl vh hl h1 w) (hn : fl.length ≤ 900) (y : Int) (bl ba : Nat) (hbl : w.heap[bl]? = some (.cells #[.int .i64 0, .int .i64 1] 68 (0, 0))) (hba : w.heap[ba]? = some (.cells #[.int .u64 y] 26 (0, 0))) :
    Calls Ybaf.prog 98 #[ptr X.bM, .func (.func 99) #[] #[ptr bl, ptr ba]] w fun e w' => ∃ vt vf' fl', e = .returned vt ∧ Taken X mu vf fl vh hl h1 y w vt vf' fl' w' := by
  obtain ⟨D, hD⟩ : ∃ D, w.heap.size = D := ⟨_, rfl⟩
  obtain ⟨W2, hW2⟩ : ∃ W, W = (w.alloc (.cells #[.func (.func 99) #[] #[ptr bl, ptr ba]] 180)).alloc (.cells #[.slice none 0 0] 63) := ⟨_, rfl⟩
  have hs1 : Stay (fun _ => False) w (w.alloc (.cells #[.func (.func 99) #[] #[ptr bl, ptr ba]] 180)) := Stay.alloc _ _ _
  have hs2 : Stay (fun _ => False) w W2 := by rw [hW2]; exact hs1.trans (Stay.alloc _ _ _)
  have hb1 : (w.alloc (.cells #[.func (.func 99) #[] #[ptr bl, ptr ba]] 180)).heap[D]? = some (.cells #[.func (.func 99) #[] #[ptr bl, ptr ba]] 180 (0, 0)) := by rw [← hD]; exact heap_alloc_new w _
  have hz1 : (w.alloc (.cells #[.func (.func 99) #[] #[ptr bl, ptr ba]] 180)).heap.size = D + 1 := by rw [World.size_alloc, hD]
  have hbw : W2.heap[D]? = some (.cells #[.func (.func 99) #[] #[ptr bl, ptr ba]] 180 (0, 0)) := by rw [hW2]; exact (Stay.alloc (fun _ => False) _ _).at_ hb1 (fun e => e)
  have hbt : W2.heap[D + 1]? = some (.cells #[.slice none 0 0] 63 (0, 0)) := by rw [hW2, ← hz1]; exact heap_alloc_new _ _
  have hz2 : W2.heap.size = D + 2 := by rw [hW2, World.size_alloc, hz1]
  have h2 := h.idle hs2
  have c10 := cell_in h2.m (o := 10) (u := vf) rfl
  have hde : De X bl ba D (D + 1) y (.slice none 0 0) [] W2 := ⟨hs2.at_ hbl (fun e => e), hs2.at_ hba (fun e => e), hbw, hbt, World.ownsRow_nil _ _ _ _, h2.pd, h2.hB⟩
  have HW : Hid ((w.alloc (.cells #[.func (.func 99) #[] #[ptr bl, ptr ba]] 180)).alloc (.cells #[.slice none 0 0] 63) = W2 ∧ w.heap.size = D ∧ (w.alloc (.cells #[.func (.func 99) #[] #[ptr bl, ptr ba]] 180)).heap.size = D + 1) := ⟨hW2.symm, hD, hz1⟩
  rcases h.fr.parts with ⟨rfl, rfl⟩ | ⟨g, cap, cur, rfl, hra⟩
  · -- nothing in flight
    have hM2 := free_in h2.m (o := 10)
    have hw3 := h2.flight (vf' := .slice none 0 0) (fl' := []) (Stay.refl _ W2) (World.ownsRow_nil _ _ _ _) (.inl rfl) (fun b hb => by cases hb)
    obtain ⟨W3, hW3⟩ : ∃ W, W = W2.setCell ⟨X.bM, 10, none⟩ (.slice none 0 0) := ⟨_, rfl⟩
    rw [← hW3] at hw3
    have k10 := cell_in hw3.m (o := 10) (u := .slice none 0 0) rfl
    have hbt3 : W3.heap[D + 1]? = some (.cells #[.slice none 0 0] 63 (0, 0)) := by
      have hs3 : Stay (fun x => x = X.bM) W2 W3 := by rw [hW3]; exact Stay.set _ _ _ _ rfl
      exact hs3.at_ hbt (other_of hbt h2.m (by decide))
    have kt := cell_in hbt3 (o := 0) (u := .slice none 0 0) rfl
    have hfin : Hid (Taken X mu (.slice none 0 0) [] vh hl h1 y w (.slice none 0 0) (.slice none 0 0) [] W3) := by
      refine ⟨hw3, World.ownsRow_nil _ _ _ _, List.Perm.refl _, (fun x hx => by cases hx), ?_, rfl⟩
      rw [hW3]
      exact (hs2.mono (fun _ _ e => e.elim)).trans (Stay.set _ _ _ _ (.inl rfl))
    have hin : Hid (Calls Ybaf.prog 121 #[.iface 198 (.pointer (some ⟨X.bM, 10, none⟩))] W3 fun e w' => e = .returned (.tuple #[]) ∧ w' = W3) := init_nil X.bM W3 k10
    have HW3 : Hid (W2.setCell ⟨X.bM, 10, none⟩ (.slice none 0 0) = W3) := hW3.symm
    clear hW2 hD h h2 hde hb1 hbw hbt hbl hba hs1 hs2 hz1 hz2 hw3 hW3 hbt3
    go_enter Ybaf.func98, Ybaf.ntmps98
    go_upto_region 2 with (fail)
    rw [HW.out.1, HW.out.2.1]
    go_wp2_with fail
    refine (delete_nil _ _).mono ?_
    rintro e wz ⟨rfl, hwz⟩
    rw [hwz]
    clear hwz
    go_upto_region 3 with (fail)
    rw [HW3.out]
    clear c10 hM2
    go_wp2_with fail
    refine Calls.mono hin.out ?_
    rintro e wz ⟨rfl, hwz⟩
    rw [hwz]
    clear hwz
    go_wp2_with fail
    go_ret
    exact ⟨.slice none 0 0, .slice none 0 0, [], rfl, hfin.out⟩
  · have hra2 := hra.stay hs2 (fun e => e)
    have hgl := lt_of hra.at_
    have hdf : Df X bl ba D (D + 1) y g cap (.slice none 0 0) [] fl W2 W2 := ⟨hde, ⟨cur, hra2⟩, by simp [Value.ownBlock], Stay.refl _ _, fun x hx => by cases hx⟩
    have hdel := delete_any hdf hn hra.le hra.max h.sf
    obtain ⟨n, hnn⟩ : ∃ n, fl.length = n := ⟨_, rfl⟩
    rw [hnn] at hdel c10 hn
    obtain ⟨L1, hL1⟩ : ∃ L, L = fl.filter (pk X y) := ⟨_, rfl⟩
    obtain ⟨L2, hL2⟩ : ∃ L, L = fl.filter (fun b => !pk X y b) := ⟨_, rfl⟩
    rw [← hL1, ← hL2] at hdel
    have hlen2 : L2.length ≤ n := by rw [hL2, ← hnn]; exact List.length_filter_le _ _
    obtain ⟨m, hm⟩ : ∃ m, L2.length = m := ⟨_, rfl⟩
    rw [hm] at hdel
    have hpp : ∀ b, b ∈ L2 → X.ps b := fun b hb => h.sf b (by rw [hL2] at hb; exact (List.mem_filter.1 hb).1)
    -- behind DeleteFunc
    have key : Hid (∀ vt' W3, Df X bl ba D (D + 1) y g cap vt' L1 L2 W2 W3 → (W3.cell? ⟨X.bM, 10, none⟩ = some (.slice (some ⟨g, 0, none⟩) n cap) ∧ W3.frozen? ⟨X.bM, 10, none⟩ = false) ∧
        (∃ p q r, vt' = .slice p q r) ∧
        Hp0 X.B g cap m X.bM L2 (W3.setCell ⟨X.bM, 10, none⟩ (.slice (some ⟨g, 0, none⟩) m cap)) ∧
        ∀ W5, Hp X.B g cap m X.bM L2 (W3.setCell ⟨X.bM, 10, none⟩ (.slice (some ⟨g, 0, none⟩) m cap)) W5 → W5.cell? ⟨D + 1, 0, none⟩ = some vt' ∧ ∃ fl', Taken X mu (.slice (some ⟨g, 0, none⟩) n cap) fl vh hl h1 y w vt' (.slice (some ⟨g, 0, none⟩) m cap) fl' W5) := by
      intro vt' W3 hd
      have hsw : Stay (fun x => x = g) w W3 := (hs2.mono (fun _ _ e => e.elim)).trans' hd.st (fun x hx e => by
        rcases e with e | e
        · omega
        · exact e)
      have apg := h.apart hra.at_
      have hM3 := hsw.at_ h.m apg.M.symm
      obtain ⟨cur3, hr3⟩ := hd.row
      have hrow3 := hr3.row
      rw [hm] at hrow3
      have hw4 := h.flight (hsw.mono (fun x _ e => by rw [e]; rfl)) hrow3 (.inl rfl) hpp
      obtain ⟨W4, hW4⟩ : ∃ W, W = W3.setCell ⟨X.bM, 10, none⟩ (.slice (some ⟨g, 0, none⟩) m cap) := ⟨_, rfl⟩
      rw [← hW4] at hw4 ⊢
      have hs4 : Stay (fun x => x = X.bM) W3 W4 := by rw [hW4]; exact Stay.set _ _ _ _ rfl
      have hr4 := hr3.stay hs4 apg.M
      refine ⟨⟨?_, free_in hM3⟩, ?_, ⟨⟨cur3, hr4⟩, hm, cell_in hw4.m rfl, lt_of hw4.m, apg.M.symm, fun b hb => hw4.pok (hpp b hb)⟩, ?_⟩
      · have := cell_in hM3 (o := 10) (u := .slice (some ⟨g, 0, none⟩) fl.length cap) rfl
        rw [hnn] at this; exact this
      · rcases hd.de.tr.parts with ⟨rfl, _⟩ | ⟨g', cap', cur', rfl, _⟩
        · exact ⟨_, _, _, rfl⟩
        · exact ⟨_, _, _, rfl⟩
      · intro W5 hp
        obtain ⟨cur5, l5, hr5, pm5⟩ := hp.row
        have hl5 : l5.length = m := by rw [pm5.length_eq, hm]
        have hrow5 := hr5.row
        rw [hl5] at hrow5
        have hw5 := hw4.turn hp.st rfl hrow5 (fun b hb => hpp b (pm5.mem_iff.1 hb))
        have hbt4 := hs4.at_ hd.de.bt_ (other_of hd.de.bt_ hM3 (by decide))
        have hbt5 := hp.st.at_ hbt4 (other_of hbt4 hr4.at_ (by decide))
        refine ⟨cell_in hbt5 rfl, l5, hw5, ?_, ?_, fun x hx => ?_, ?_, rfl⟩
        · rw [← hL1]
          refine (hd.de.tr.stay hs4 (fun x hx e => ?_)).stay hp.st (fun x hx e => hd.ap (by rw [hx, e]))
          obtain ⟨c', e'⟩ := hd.de.tr.block hx
          exact other_of e' hM3 (by decide) e
        · rw [← hL2]; exact pm5
        · have := hd.nw x hx; omega
        · have hsa : Stay (fun x => x = X.bM ∨ (Value.slice (some ⟨g, 0, none⟩) n cap).ownBlock = some x) w W4 := (hsw.mono (fun x _ e => .inr (by rw [e]; rfl))).trans (hs4.mono (fun x _ e => .inl e))
          exact hsa.trans (hp.st.mono (fun x _ e => .inr (by rw [e]; rfl)))
    replace hdel : Hid _ := hdel
    clear hW2 hD h h2 hde hdf hb1 hbw hbt hbl hba hs1 hs2 hz1 hz2 hra hra2 hL1 hL2 hpp
    rw [hnn]
    clear hnn
    replace hm : Hid (L2.length = m) := hm
    go_enter Ybaf.func98, Ybaf.ntmps98
    go_upto_region 2 with (fail)
    rw [HW.out.1, HW.out.2.1]
    go_wp2_with fail
    refine Calls.mono hdel.out ?_
    rintro e w3 ⟨rfl, vt', hd⟩
    obtain ⟨⟨a1, a2⟩, ⟨vp, vq, vr, rfl⟩, a3, a4⟩ := key.out vt' w3 hd
    obtain ⟨W4, hW4⟩ : ∃ W, W = w3.setCell ⟨X.bM, 10, none⟩ (.slice (some ⟨g, 0, none⟩) m cap) := ⟨_, rfl⟩
    rw [← hW4] at a3 a4
    have hin : Hid (Calls Ybaf.prog 121 #[.iface 198 (.pointer (some ⟨X.bM, 10, none⟩))] W4 fun e w' => e = .returned (.tuple #[]) ∧ Hp X.B g cap m X.bM L2 W4 w') := init_at a3 (by have := hm.out; omega)
    replace a4 : Hid (∀ W5, Hp X.B g cap m X.bM L2 W4 W5 → W5.cell? ⟨D + 1, 0, none⟩ = some (.slice vp vq vr) ∧ ∃ fl', Taken X mu (.slice (some ⟨g, 0, none⟩) n cap) fl vh hl h1 y w (.slice vp vq vr) (.slice (some ⟨g, 0, none⟩) m cap) fl' W5) := a4
    replace hW4 : Hid (w3.setCell ⟨X.bM, 10, none⟩ (.slice (some ⟨g, 0, none⟩) m cap) = W4) := hW4.symm
    clear hd a3 c10
    go_upto_region 3 with (fail)
    rw [hW4.out]
    clear a1 a2
    go_wp2_with fail
    refine Calls.mono hin.out ?_
    rintro e w5 ⟨rfl, hp⟩
    obtain ⟨b1, fl', b2⟩ := a4.out w5 hp
    replace b2 : Hid (Taken X mu (.slice (some ⟨g, 0, none⟩) n cap) fl vh hl h1 y w (.slice vp vq vr) (.slice (some ⟨g, 0, none⟩) m cap) fl' w5) := b2
    clear hp
    go_wp2_with fail
    go_ret
    exact ⟨_, _, fl', rfl, b2.out⟩
end Go.Proofs.YbulkcoecFmt
