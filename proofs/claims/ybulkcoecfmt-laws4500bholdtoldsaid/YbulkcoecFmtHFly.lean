import Derived.Test.YbulkcoecFmtHTake
namespace Go.Proofs.YbulkcoecFmt
open Go.RowKit Go.Deep
set_option linter.unusedVariables false
set_option linter.unusedSimpArgs false

/-- What may turn. -/
def Tn (X : Pc) (vf vh : Value) (x : Nat) : Prop := x = X.bM ∨ x = X.n1 ∨ vf.ownBlock = some x ∨ vh.ownBlock = some x

/-- Between two holdings. -/
structure Fl (X : Pc) (mu : Int) (vf vh : Value) (hl : List Nat) (h1 : Nat) (w : World) (vt vf' : Value) (fl' L1 : List Nat) (i : Nat) (vi : Value) (li : List Nat) (W : World) : Prop where
  hw : Hw X mu vf' fl' vi li (h1 + i) W
  rs : Rises X.idf li
  pm : li.Perm (L1.take i ++ hl)
  tr : Row X.B vt L1 W
  ap : ∀ g, vt.ownBlock = some g → vi.ownBlock ≠ some g
  nw : ∀ x, vi.ownBlock = some x → vh.ownBlock = some x ∨ w.heap.size ≤ x
  st : Stay (Tn X vf vh) w W

theorem Fl.step {X : Pc} {mu : Int} {vf vh : Value} {hl : List Nat} {h1 : Nat} {w : World} {vt vf' : Value} {fl' L1 : List Nat} {i : Nat} {vi : Value} {li : List Nat} {W : World} (h : Fl X mu vf vh hl h1 w vt vf' fl' L1 i vi li W) (hi : i < L1.length) (hn : L1.length + hl.length ≤ 900) (hh : h1 + L1.length ≤ 100000) (hp : ∀ b, b ∈ L1 → X.ps b ∧ X.own b = true) :
    Calls Ybaf.prog 62 #[ptr X.bM, ptr L1[i]!] W fun e w' => e = .returned (.tuple #[]) ∧ ∃ vi' li', Fl X mu vf vh hl h1 w vt vf' fl' L1 (i + 1) vi' li' w' := by
  have hm : L1[i]! ∈ L1 := by rw [getElem!_pos L1 i hi]; exact List.getElem_mem _
  have hlen : li.length ≤ 900 := by
    rw [h.pm.length_eq, List.length_append, List.length_take]; omega
  refine (hold_any h.hw hlen (by omega) h.rs L1[i]! (hp _ hm).1 (hp _ hm).2).mono ?_
  rintro e w' ⟨rfl, vi', li', a1, a2, a3, a4, a5⟩
  refine ⟨rfl, vi', li', a1, a3, ?_, ?_, ?_, ?_, ?_⟩
  · rw [take_snoc L1 i hi]
    refine a2.trans ((List.Perm.cons _ h.pm).trans ?_)
    rw [List.append_assoc]
    exact List.perm_middle.symm
  · refine h.tr.stay a4 (fun x hx e => ?_)
    obtain ⟨cur, e2⟩ := h.tr.block hx
    rcases e with e | e | e
    · exact h.ap x hx e
    · exact (h.hw.apart e2).M e
    · exact (h.hw.apart e2).n1 e
  · intro g hg e
    rcases a5 with a5 | ⟨g', a5, hlt⟩
    · rw [a5] at e; exact h.ap g hg e
    · obtain ⟨cur, e2⟩ := h.tr.block hg
      have := lt_of e2
      rw [a5] at e
      simp only [Option.some.injEq] at e
      omega
  · intro x hx
    rcases a5 with a5 | ⟨g', a5, hlt⟩
    · rw [a5] at hx; exact h.nw x hx
    · rw [a5] at hx
      simp only [Option.some.injEq] at hx
      have := h.st.size
      exact .inr (by omega)
  · refine h.st.trans' a4 (fun x hx e => ?_)
    rcases e with e | e | e
    · rcases h.nw x e with e2 | e2
      · exact .inr (.inr (.inr e2))
      · omega
    · exact .inl e
    · exact .inr (.inl e)

set_option maxRecDepth 100000 in
set_option maxHeartbeats 8000000 in
/-- holdFlying. -/
theorem fly_any {X : Pc} {mu : Int} {vf vh : Value} {fl hl : List Nat} {h1 : Nat} {w : World} (h : Hw X mu vf fl vh hl h1 w) (hn : fl.length + hl.length ≤ 900) (hh : h1 + fl.length ≤ 100000) (hr : Rises X.idf hl) (y : Int) :
    Calls Ybaf.prog 63 #[ptr X.bM, .agg #[.int .i64 0, .int .i64 1], .int .u64 y] w fun e w' => e = .returned (.tuple #[]) ∧ ∃ vf' fl' vh' hl', Hw X mu vf' fl' vh' hl' (h1 + (fl.filter (pk X y)).length) w' ∧ fl'.Perm (fl.filter (fun b => !pk X y b)) ∧ hl'.Perm (fl.filter (pk X y) ++ hl) ∧ Rises X.idf hl' ∧ Stay (Tn X vf vh) w w' := by
  obtain ⟨D, hD⟩ : ∃ D, w.heap.size = D := ⟨_, rfl⟩
  obtain ⟨W2, hW2⟩ : ∃ W, W = (w.alloc (.cells #[.int .i64 0, .int .i64 1] 68)).alloc (.cells #[.int .u64 y] 26) := ⟨_, rfl⟩
  have hs1 : Stay (fun _ => False) w (w.alloc (.cells #[.int .i64 0, .int .i64 1] 68)) := Stay.alloc _ _ _
  have hs2 : Stay (fun _ => False) w W2 := by rw [hW2]; exact hs1.trans (Stay.alloc _ _ _)
  have hb1 : (w.alloc (.cells #[.int .i64 0, .int .i64 1] 68)).heap[D]? = some (.cells #[.int .i64 0, .int .i64 1] 68 (0, 0)) := by rw [← hD]; exact heap_alloc_new w _
  have hz1 : (w.alloc (.cells #[.int .i64 0, .int .i64 1] 68)).heap.size = D + 1 := by rw [World.size_alloc, hD]
  have hbl : W2.heap[D]? = some (.cells #[.int .i64 0, .int .i64 1] 68 (0, 0)) := by rw [hW2]; exact (Stay.alloc (fun _ => False) _ _).at_ hb1 (fun e => e)
  have hba : W2.heap[D + 1]? = some (.cells #[.int .u64 y] 26 (0, 0)) := by rw [hW2, ← hz1]; exact heap_alloc_new _ _
  have h2 := h.idle hs2
  have htk : Hid (Calls Ybaf.prog 98 #[ptr X.bM, .func (.func 99) #[] #[ptr D, ptr (D + 1)]] W2 fun e w' => ∃ vt vf' fl', e = .returned vt ∧ Taken X mu vf fl vh hl h1 y W2 vt vf' fl' w') := take_any h2 (by omega) y D (D + 1) hbl hba
  have HW : Hid ((w.alloc (.cells #[.int .i64 0, .int .i64 1] 68)).alloc (.cells #[.int .u64 y] 26) = W2 ∧ w.heap.size = D) := ⟨hW2.symm, hD⟩
  obtain ⟨L1, hL1⟩ : ∃ L, L = fl.filter (pk X y) := ⟨_, rfl⟩
  obtain ⟨k, hk⟩ : ∃ k, L1.length = k := ⟨_, rfl⟩
  have hkl : k ≤ fl.length := by rw [← hk, hL1]; exact List.length_filter_le _ _
  have hp : ∀ b, b ∈ L1 → X.ps b ∧ X.own b = true := fun b hb => by
    rw [hL1] at hb
    obtain ⟨m1, m2⟩ := List.mem_filter.1 hb
    refine ⟨h.sf b m1, ?_⟩
    unfold pk at m2
    simp only [Bool.and_eq_true] at m2
    exact m2.1
  -- behind takeFlying
  have key : Hid (∀ vt vf' fl' w3, Taken X mu vf fl vh hl h1 y W2 vt vf' fl' w3 → Fl X mu vf vh hl h1 w vt vf' fl' L1 0 vh hl w3 ∧ fl'.Perm (fl.filter (fun b => !pk X y b))) := by
    intro vt vf' fl' w3 ht
    have hz : w.heap.size ≤ W2.heap.size := hs2.size
    refine ⟨⟨ht.hw, hr, by simp, by rw [hL1]; exact ht.tr, fun g hg e => ?_, fun x hx => .inl hx, ?_⟩, ht.pf⟩
    · have := ht.nw g hg
      obtain ⟨cur, e2⟩ := h2.hr.block e
      have := lt_of e2; omega
    · exact (hs2.mono (fun _ _ e => e.elim)).trans (ht.st.mono (fun x _ e => by
        rcases e with e | e
        · exact .inl e
        · exact .inr (.inr (.inl e))))
  have hend : Hid (∀ vt vf' fl' vi li W, Fl X mu vf vh hl h1 w vt vf' fl' L1 k vi li W → fl'.Perm (fl.filter (fun b => !pk X y b)) →
      ∃ vf' fl' vh' hl', Hw X mu vf' fl' vh' hl' (h1 + (fl.filter (pk X y)).length) W ∧ fl'.Perm (fl.filter (fun b => !pk X y b)) ∧ hl'.Perm (fl.filter (pk X y) ++ hl) ∧ Rises X.idf hl' ∧ Stay (Tn X vf vh) w W) := by
    intro vt vf' fl' vi li W hf hpf
    refine ⟨vf', fl', vi, li, ?_, hpf, ?_, hf.rs, hf.st⟩
    · have := hf.hw; rw [← hk, hL1] at this; exact this
    · have := hf.pm
      rw [List.take_of_length_le (by omega), hL1] at this
      exact this
  have hstep : Hid (∀ vt vf' fl' i vi li W, Fl X mu vf vh hl h1 w vt vf' fl' L1 i vi li W → i < k → Calls Ybaf.prog 62 #[ptr X.bM, ptr L1[i]!] W fun e w' => e = .returned (.tuple #[]) ∧ ∃ vi' li', Fl X mu vf vh hl h1 w vt vf' fl' L1 (i + 1) vi' li' w') :=
    fun vt vf' fl' i vi li W hf hi => hf.step (by omega) (by omega) (by omega) hp
  replace hk : Hid (L1.length = k) := hk
  clear hW2 hD h h2 hb1 hbl hba hs1 hs2 hz1 hL1 hp hr
  go_enter Ybaf.func63, Ybaf.ntmps63
  go_upto_region 1 with (fail)
  rw [HW.out.1, HW.out.2]
  go_wp2_with fail
  refine Calls.mono htk.out ?_
  rintro e w3 ⟨vt, vf', fl', rfl, ht⟩
  obtain ⟨f0, hpf⟩ := key.out vt vf' fl' w3 ht
  replace hpf : Hid (fl'.Perm (fl.filter (fun b => !pk X y b))) := hpf
  clear ht
  rcases f0.tr.parts with ⟨rfl, hnil⟩ | ⟨gt, ct, cur, hvt, hra⟩
  · have hk0 : k = 0 := by rw [← hk.out, hnil]; rfl
    replace f0 : Hid (Fl X mu vf vh hl h1 w (.slice none 0 0) vf' fl' L1 0 vh hl w3) := f0
    clear hnil
    go_wp2_with fail
    go_loopw [12] (fun va wr => va = .int .i64 0 ∧ wr = w3) (fun _ _ => 0)
    case atStart => exact ⟨rfl, rfl⟩
    case round =>
      obtain ⟨rfl, rfl⟩ := hrel
      go_wp2_with fail
      go_end0
      exact ⟨rfl, hend.out _ _ _ _ _ _ (by rw [hk0]; exact f0.out) hpf.out⟩
  · have hct : L1.length ≤ ct := hra.le
    rw [hk.out] at hvt
    subst hvt
    have hcell : Hid (∀ i vi li W, Fl X mu vf vh hl h1 w (.slice (some ⟨gt, 0, none⟩) k ct) vf' fl' L1 i vi li W → ∀ t, t < k → W.cell? ⟨gt, t, none⟩ = some (ptr L1[t]!)) := fun i vi li W hf t htk => by
      rcases hf.tr.parts with ⟨e, _⟩ | ⟨g2, c2, cu2, e, hr2⟩
      · cases e
      · simp only [Value.slice.injEq, Option.some.injEq, Addr.mk.injEq] at e
        obtain ⟨⟨rfl, _⟩, _, rfl⟩ := e
        exact hr2.cell t (by rw [hk.out]; exact htk)
    replace f0 : Hid (Fl X mu vf vh hl h1 w (.slice (some ⟨gt, 0, none⟩) k ct) vf' fl' L1 0 vh hl w3) := f0
    clear hra
    go_wp2_with fail
    go_loopw [12] (fun va wr => ∃ (i : Nat) (vi : Value) (li : List Nat), va = .int .i64 i ∧ i ≤ k ∧ Fl X mu vf vh hl h1 w (.slice (some ⟨gt, 0, none⟩) k ct) vf' fl' L1 i vi li wr) (fun va _ => k - (intOf va).toNat)
    case atStart => exact ⟨0, vh, hl, rfl, by omega, f0.out⟩
    case round =>
      obtain ⟨i, vi, li, rfl, hik, hf⟩ := hrel
      by_cases hi : i < k
      · have ci := hcell.out i vi li wr hf i hi
        have hst := hstep.out _ _ _ i vi li wr hf hi
        obtain ⟨p, hp⟩ : ∃ p, L1[i]! = p := ⟨_, rfl⟩
        rw [hp] at ci hst
        replace hst : Hid _ := hst
        clear hf hp
        go_wp2_with fail
        refine Calls.mono hst.out ?_
        rintro e w4 ⟨rfl, vi', li', hf'⟩
        replace hf' : Hid (Fl X mu vf vh hl h1 w (.slice (some ⟨gt, 0, none⟩) k ct) vf' fl' L1 (i + 1) vi' li' w4) := hf'
        go_wp2_with fail
        go_roundw
        case rel => exact ⟨i + 1, vi', li', by go_num, by omega, hf'.out⟩
        case measure => simp [intOf]; omega
      · have hik2 : i = k := by omega
        subst hik2
        replace hf : Hid (Fl X mu vf vh hl h1 w (.slice (some ⟨gt, 0, none⟩) i ct) vf' fl' L1 i vi li wr) := hf
        go_wp2_with fail
        go_end0
        exact ⟨rfl, hend.out _ _ _ _ _ _ hf.out hpf.out⟩
end Go.Proofs.YbulkcoecFmt
