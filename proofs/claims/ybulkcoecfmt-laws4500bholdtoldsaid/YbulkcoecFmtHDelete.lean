import Derived.Test.YbulkcoecFmtHDel
namespace Go.Proofs.YbulkcoecFmt
open Go.RowKit Go.Deep
set_option linter.unusedVariables false
set_option linter.unusedSimpArgs false

/-- The row under deletion. -/
structure Df (X : Pc) (bl ba bw bt : Nat) (y : Int) (g cap : Nat) (vt : Value) (tl lc : List Nat) (w0 W : World) : Prop where
  de : De X bl ba bw bt y vt tl W
  row : ∃ cur, RowAt X.B g cap cur lc W
  ap : vt.ownBlock ≠ some g
  st : Stay (fun x => x = bt ∨ x = g) w0 W
  nw : ∀ x, vt.ownBlock = some x → w0.heap.size ≤ x

section
variable {X : Pc} {bl ba bw bt : Nat} {y : Int} {g cap : Nat} {vt : Value} {tl lc : List Nat} {w0 W : World}

theorem Df.step (h : Df X bl ba bw bt y g cap vt tl lc w0 W) (hn : tl.length ≤ 900) (b : Nat) (hb : X.ps b) :
    Calls Ybaf.prog 120 #[ptr b, ptr bw, ptr bt] W fun e w' => e = .returned (.bool (pk X y b)) ∧ ∃ vt', Df X bl ba bw bt y g cap vt' (if pk X y b then tl ++ [b] else tl) lc w0 w' := by
  refine (del_any h.de hn b hb).mono ?_
  rintro e w' ⟨rfl, vt', h1, h2, h3⟩
  obtain ⟨cur, hr⟩ := h.row
  have hgt : g ≠ bt := other_of hr.at_ h.de.bt_ (by decide)
  refine ⟨rfl, vt', h1, ⟨cur, hr.stay h2 (by rintro (e | e); exact hgt e; exact h.ap e)⟩, ?_, ?_, ?_⟩
  · rcases h3 with e | ⟨g', e, hl⟩
    · rw [e]; exact h.ap
    · rw [e]; intro e2; simp only [Option.some.injEq] at e2; have := lt_of hr.at_; omega
  · exact h.st.trans' h2 (fun x hx e => by
      rcases e with e | e
      · exact .inl e
      · have := h.nw x e; omega)
  · intro x hx
    rcases h3 with e | ⟨g', e, hl⟩
    · rw [e] at hx; exact h.nw x hx
    · rw [e] at hx; simp only [Option.some.injEq] at hx; have := h.st.size; omega

theorem Df.put (h : Df X bl ba bw bt y g cap vt tl lc w0 W) (i b : Nat) (hi : i < lc.length) : Df X bl ba bw bt y g cap vt tl (lc.set i b) w0 (W.setCell ⟨g, i, none⟩ (ptr b)) := by
  obtain ⟨cur, hr⟩ := h.row
  have hs : Stay (fun x => x = g) W (W.setCell ⟨g, i, none⟩ (ptr b)) := Stay.set _ _ _ _ rfl
  have ne : ∀ x c t z, W.heap[x]? = some (.cells c t z) → t ≠ 71 → ¬ (x = g) := fun x c t z e ht => other_of e hr.at_ ht
  refine ⟨h.de.stay hs (ne _ _ _ _ h.de.bl_ (by decide)) (ne _ _ _ _ h.de.ba_ (by decide)) (ne _ _ _ _ h.de.bw_ (by decide)) (ne _ _ _ _ h.de.bt_ (by decide)) (fun x hx e => h.ap (by rw [hx, e])) (fun x hx => by
    obtain ⟨tt, sq, du, e⟩ := h.de.pd x hx
    exact ne _ _ _ _ e (by decide)), ⟨cur.setIfInBounds i (ptr b), ?_⟩, h.ap, h.st.trans (hs.mono (fun _ _ e => .inr e)), h.nw⟩
  have e1 := heap_setCell_same W g i cur 71 (ptr b) hr.at_
  refine ⟨hr.ge, e1, by simpa using hr.le, hr.max, by simpa using hr.size, fun t ht => ?_⟩
  have ht' : t < lc.length := by simpa using ht
  have hts : t < cur.size := by rw [hr.size]; have := hr.le; omega
  rw [getElem!_pos _ t ht, List.getElem_set, Array.getElem?_setIfInBounds]
  by_cases a1 : i = t
  · subst a1; simp [hts]
  · rw [if_neg a1, if_neg a1, hr.get t ht', getElem!_pos lc t ht']

theorem Df.cell (h : Df X bl ba bw bt y g cap vt tl lc w0 W) {t : Nat} (ht : t < lc.length) : W.cell? ⟨g, t, none⟩ = some (ptr lc[t]!) := by
  obtain ⟨cur, hr⟩ := h.row
  exact hr.cell t ht

theorem Df.free (h : Df X bl ba bw bt y g cap vt tl lc w0 W) (t : Nat) : W.frozen? ⟨g, t, none⟩ = false := by
  obtain ⟨cur, hr⟩ := h.row
  exact hr.free t

/-- The tail is cleared. -/
theorem Df.cut (h : Df X bl ba bw bt y g cap vt tl lc w0 W) (i k : Nat) (hi : i ≤ lc.length) : Df X bl ba bw bt y g cap vt tl (lc.take i) w0 (W.setCells g i (List.replicate k (.pointer none))) := by
  obtain ⟨cur, hr⟩ := h.row
  have hs : Stay (fun x => x = g) W (W.setCells g i (List.replicate k (.pointer none))) := Stay.setCells (S := fun x => x = g) rfl _ _ _
  have ne : ∀ x c t z, W.heap[x]? = some (.cells c t z) → t ≠ 71 → ¬ (x = g) := fun x c t z e ht => other_of e hr.at_ ht
  refine ⟨h.de.stay hs (ne _ _ _ _ h.de.bl_ (by decide)) (ne _ _ _ _ h.de.ba_ (by decide)) (ne _ _ _ _ h.de.bw_ (by decide)) (ne _ _ _ _ h.de.bt_ (by decide)) (fun x hx e => h.ap (by rw [hx, e])) (fun x hx => by
    obtain ⟨tt, sq, du, e⟩ := h.de.pd x hx
    exact ne _ _ _ _ e (by decide)), ?_, h.ap, h.st.trans (hs.mono (fun _ _ e => .inr e)), h.nw⟩
  obtain ⟨c1, e1, e2, e3⟩ := heap_setCells_at (List.replicate k (.pointer none)) i W cur hr.at_
  have hl : (lc.take i).length = i := by rw [List.length_take]; omega
  refine ⟨c1, hr.ge, e1, by rw [hl]; have := hr.le; omega, hr.max, by rw [e2, hr.size], fun t ht => ?_⟩
  rw [hl] at ht
  rw [e3 t, if_neg (by omega), hr.get t (by omega), getElem!_pos lc t (by omega), getElem!_pos (lc.take i) t (by rw [hl]; exact ht)]
  simp
end

set_option maxRecDepth 100000 in
set_option maxHeartbeats 8000000 in
/-- IndexFunc. -/
theorem index_any {X : Pc} {bl ba bw bt : Nat} {y : Int} {g cap : Nat} {vt : Value} {l : List Nat} {w0 W : World} (h : Df X bl ba bw bt y g cap vt [] l w0 W) (hn : l.length ≤ 900) (hp : ∀ b, b ∈ l → X.ps b) :
    Calls Ybaf.prog 132 #[.slice (some ⟨g, 0, none⟩) l.length cap, .func (.func 120) #[] #[ptr bw, ptr bt]] W fun e w' =>
      (∃ i, i < l.length ∧ pk X y l[i]! = true ∧ (∀ t, t < i → pk X y l[t]! = false) ∧ e = .returned (.int .i64 i) ∧ ∃ vt', Df X bl ba bw bt y g cap vt' [l[i]!] l w0 w') ∨
      ((∀ t, t < l.length → pk X y l[t]! = false) ∧ e = .returned (.int .i64 (-1)) ∧ ∃ vt', Df X bl ba bw bt y g cap vt' [] l w0 w') := by
  obtain ⟨n, hnn⟩ : ∃ n, l.length = n := ⟨_, rfl⟩
  obtain ⟨p, hpp⟩ : ∃ p : Nat → Nat, ∀ t, p t = l[t]! := ⟨fun t => l[t]!, fun _ => rfl⟩
  have hcl : Hid (∀ (vt : Value) (W : World), Df X bl ba bw bt y g cap vt [] l w0 W → ∀ t, t < n → W.cell? ⟨g, t, none⟩ = some (.pointer (some ⟨p t, 0, none⟩))) := fun vt W h t ht => by rw [hpp]; exact h.cell (by omega)
  have hsp : Hid (∀ (vt : Value) (W : World), Df X bl ba bw bt y g cap vt [] l w0 W → ∀ t, t < n → Calls Ybaf.prog 120 #[.pointer (some ⟨p t, 0, none⟩), ptr bw, ptr bt] W fun e w' => e = .returned (.bool (pk X y (p t))) ∧ ∃ vt', Df X bl ba bw bt y g cap vt' (if pk X y (p t) then [p t] else []) l w0 w') := fun vt W h t ht =>
    h.step (by simp) (p t) (hp _ (by rw [hpp, getElem!_pos l t (by omega)]; exact List.getElem_mem _))
  replace hpp : Hid (∀ t, p t = l[t]!) := hpp
  rw [hnn] at hn
  rw [hnn]
  go_enter Ybaf.func132, Ybaf.ntmps132
  go_wp2
  go_loopw [8] (fun va wr => ∃ (i : Nat) (vt : Value), va = .int .i64 i ∧ i ≤ n ∧ Df X bl ba bw bt y g cap vt [] l w0 wr ∧ Hid (∀ t, t < i → pk X y (p t) = false)) (fun va _ => n - (intOf va).toNat)
  case atStart => exact ⟨0, vt, rfl, by omega, h, fun t ht => absurd ht (by omega)⟩
  case round =>
    obtain ⟨i, vt, rfl, hin, hd, hno⟩ := hrel
    by_cases hi : i < n
    · have ci := hcl.out vt wr hd i hi
      have hc := hsp.out vt wr hd i hi
      cases hpk : pk X y (p i) with
      | true =>
        rw [hpk] at hc
        replace hc : Hid _ := hc
        go_wp2_with fail
        refine Calls.mono hc.out ?_
        rintro e w2 ⟨rfl, vt2, hd2⟩
        replace hd2 : Hid (Df X bl ba bw bt y g cap vt2 (if true = true then [p i] else []) l w0 w2) := hd2
        replace hpk : Hid (pk X y (p i) = true) := hpk
        go_wp2_with fail
        go_ret
        refine .inl ⟨i, by omega, by rw [← hpp.out]; exact hpk.out, fun t ht => by rw [← hpp.out]; exact hno.out t ht, rfl, vt2, ?_⟩
        have := hd2.out
        simp only [if_true] at this
        rw [← hpp.out]; exact this
      | false =>
        rw [hpk] at hc
        replace hc : Hid _ := hc
        go_wp2_with fail
        refine Calls.mono hc.out ?_
        rintro e w2 ⟨rfl, vt2, hd2⟩
        replace hd2 : Hid (Df X bl ba bw bt y g cap vt2 (if false = true then [p i] else []) l w0 w2) := hd2
        replace hpk : Hid (pk X y (p i) = false) := hpk
        go_wp2_with fail
        go_roundw
        case rel => exact ⟨i + 1, vt2, by go_num, by omega, hd2.out, fun t ht => by
          by_cases e : t = i
          · rw [e]; exact hpk.out
          · exact hno.out t (by omega)⟩
        case measure => simp [intOf]; omega
    · replace hd : Hid (Df X bl ba bw bt y g cap vt [] l w0 wr) := hd
      go_wp2_with fail
      go_ret
      exact .inr ⟨fun t ht => by rw [← hpp.out]; exact hno.out t (by omega), rfl, vt, hd.out⟩

theorem take_snoc (l : List Nat) (j : Nat) (hj : j < l.length) : l.take (j + 1) = l.take j ++ [l[j]!] := by
  rw [List.take_add_one, List.getElem?_eq_getElem hj, getElem!_pos l j hj]; rfl

theorem filter_none (X : Pc) (y : Int) (l : List Nat) (i : Nat) (hi : i ≤ l.length) (h : ∀ t, t < i → pk X y l[t]! = false) : (l.take i).filter (pk X y) = [] ∧ (l.take i).filter (fun b => !pk X y b) = l.take i := by
  have hm : ∀ b, b ∈ l.take i → pk X y b = false := fun b hb => by
    obtain ⟨t, ht, e⟩ := List.mem_iff_getElem.1 hb
    have ht2 : t < i := by rw [List.length_take] at ht; omega
    have := h t ht2
    rw [getElem!_pos l t (by omega)] at this
    rw [← e]
    simpa using this
  exact ⟨List.filter_eq_nil_iff.2 (fun b hb => by rw [hm b hb]; simp), List.filter_eq_self.2 (fun b hb => by rw [hm b hb]; rfl)⟩

end Go.Proofs.YbulkcoecFmt
