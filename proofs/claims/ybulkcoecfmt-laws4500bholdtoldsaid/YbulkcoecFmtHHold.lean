import Derived.Test.YbulkcoecFmtHState
namespace Go.Proofs.YbulkcoecFmt
open Go.RowKit Go.Deep
set_option linter.unusedVariables false
set_option linter.unusedSimpArgs false

theorem search_any {B : Nat} {v : Value} {l : List Nat} {w : World} (h : Row B v l w) (idf : Nat → Int) (hid : ∀ b, b ∈ l → w.cell? ⟨b, 0, none⟩ = some (.int .u64 (idf b))) (hr : Rises idf l) (hn : l.length ≤ 900) (y : Int) :
    Calls Ybaf.prog 116 #[v, .int .u64 y, .func (.func 117) #[] #[]] w fun e w' =>
      ∃ (i : Nat) (fb : Bool), e = .returned (.tuple #[.int .i64 i, .bool fb]) ∧ w' = w ∧ i ≤ l.length ∧ (∀ t, t < i → idf l[t]! < y) ∧ (∀ t, i ≤ t → t < l.length → y ≤ idf l[t]!) := by
  rcases h.parts with ⟨rfl, rfl⟩ | ⟨g, cap, cur, rfl, ha⟩
  · refine (search_nil w y).mono ?_
    rintro e w' ⟨fb, rfl, rfl⟩
    exact ⟨0, fb, rfl, rfl, Nat.le_refl _, fun t ht => absurd ht (by omega), fun t _ ht => absurd ht (by simp)⟩
  · exact search_at ha idf hid hr hn y

theorem insert_any {B : Nat} {v : Value} {l : List Nat} {w : World} (h : Row B v l w) (hB : B ≤ w.heap.size) (hn : l.length ≤ 900) (b vb : Nat) (hvb : w.heap[vb]? = some (.cells #[ptr b] 71 (0, 0))) (hne : v.ownBlock ≠ some vb) {i : Nat} (hi : i ≤ l.length) :
    Calls Ybaf.prog 118 #[v, .int .i64 i, .slice (some ⟨vb, 0, none⟩) 1 1] w fun e w' =>
      ∃ v', e = .returned v' ∧ Row B v' (l.take i ++ b :: l.drop i) w' ∧ Stay (fun x => v.ownBlock = some x) w w' ∧ Moved w v v' := by
  by_cases hil : i = l.length
  · subst hil
    refine (insert_end h hB hn b vb hvb).mono ?_
    rintro e w' ⟨v', rfl, h1, h2, h3⟩
    exact ⟨v', rfl, by simpa using h1, h2, h3⟩
  · rcases h.parts with ⟨rfl, rfl⟩ | ⟨g, cap, cur, rfl, ha⟩
    · simp at hi; exact absurd hi hil
    · by_cases hroom : l.length + 1 ≤ cap
      · refine (insert_room ha hn b vb hvb (by intro e; apply hne; rw [e]; rfl) (by omega) hroom).mono ?_
        rintro e w' ⟨v', rfl, h1, h2, h3⟩
        exact ⟨v', rfl, h1, h2.mono (fun x _ e => by rw [e]; rfl), .inl (by rw [h3]; rfl)⟩
      · refine (insert_grow ha hB hn b vb hvb (by omega) (by omega)).mono ?_
        rintro e w' ⟨v', rfl, h1, h2, h3⟩
        exact ⟨v', rfl, h1, h2.mono (fun x _ e => e.elim), .inr ⟨_, h3, Nat.le_refl _⟩⟩

theorem rises_ins {idf : Nat → Int} {l : List Nat} {i b : Nat} (hr : Rises idf l) (hi : i ≤ l.length) (h1 : ∀ t, t < i → idf l[t]! < idf b) (h2 : ∀ t, i ≤ t → t < l.length → idf b ≤ idf l[t]!) : Rises idf (l.take i ++ b :: l.drop i) := by
  intro s t hst ht
  rw [len_ins l i b hi] at ht
  rw [get_ins l i b s hi (by omega), get_ins l i b t hi ht]
  by_cases a1 : t < i
  · rw [if_pos (show s < i by omega), if_pos a1]
    exact hr s t hst (by omega)
  · rw [if_neg a1]
    by_cases a2 : t = i
    · subst a2
      rw [if_pos hst, if_pos rfl]
      exact Int.le_of_lt (h1 s hst)
    · rw [if_neg a2]
      by_cases a3 : s < i
      · rw [if_pos a3]
        have := h1 s a3
        have := h2 (t - 1) (by omega) (by omega)
        omega
      · rw [if_neg a3]
        by_cases a4 : s = i
        · rw [if_pos a4]
          exact h2 (t - 1) (by omega) (by omega)
        · rw [if_neg a4]
          exact hr (s - 1) (t - 1) (by omega) (by omega)

theorem perm_ins (l : List Nat) (i b : Nat) : (l.take i ++ b :: l.drop i).Perm (b :: l) := by
  have h1 : (l.take i ++ b :: l.drop i).Perm (b :: (l.take i ++ l.drop i)) := List.perm_middle
  rwa [List.take_append_drop] at h1

set_option maxRecDepth 100000 in
set_option maxHeartbeats 4000000 in
/-- insertByID. -/
theorem insid_any {B : Nat} {v : Value} {l : List Nat} {w : World} (h : Row B v l w) (hB : B ≤ w.heap.size) (hn : l.length ≤ 900) (idf : Nat → Int) (hid : ∀ b, b ∈ l → w.cell? ⟨b, 0, none⟩ = some (.int .u64 (idf b))) (hr : Rises idf l) (b : Nat) (hb : w.cell? ⟨b, 0, none⟩ = some (.int .u64 (idf b))) :
    Calls Ybaf.prog 97 #[v, ptr b] w fun e w' => ∃ v' l', e = .returned v' ∧ Row B v' l' w' ∧ l'.Perm (b :: l) ∧ Rises idf l' ∧ Stay (fun x => v.ownBlock = some x) w w' ∧ Moved w v v' := by
  have hse : Hid (Calls Ybaf.prog 116 #[v, .int .u64 (idf b), .func (.func 117) #[] #[]] w fun e w' => ∃ (i : Nat) (fb : Bool), e = .returned (.tuple #[.int .i64 i, .bool fb]) ∧ w' = w ∧ i ≤ l.length ∧ (∀ t, t < i → idf l[t]! < idf b) ∧ (∀ t, i ≤ t → t < l.length → idf b ≤ idf l[t]!)) := search_any h idf hid hr hn (idf b)
  obtain ⟨D, hD⟩ : ∃ D, w.heap.size = D := ⟨_, rfl⟩
  obtain ⟨W1, hW1⟩ : ∃ W, W = w.alloc (.cells #[ptr b] 71) := ⟨_, rfl⟩
  have hs1 : Stay (fun _ => False) w W1 := by rw [hW1]; exact Stay.alloc _ _ _
  have hD1 : W1.heap[D]? = some (.cells #[ptr b] 71 (0, 0)) := by rw [hW1, ← hD]; exact heap_alloc_new w _
  have hrow1 : Row B v l W1 := h.stay hs1 (fun _ _ e => e)
  have hne : v.ownBlock ≠ some D := fun e => by
    obtain ⟨cur, e2⟩ := h.block e
    have := lt_of e2; omega
  have hz : w.heap.size ≤ W1.heap.size := hs1.size
  have hin : Hid (∀ i : Nat, i ≤ l.length → Calls Ybaf.prog 118 #[v, .int .i64 i, .slice (some ⟨D, 0, none⟩) 1 1] W1 fun e w' =>
      ∃ v', e = .returned v' ∧ Row B v' (l.take i ++ b :: l.drop i) w' ∧ Stay (fun x => v.ownBlock = some x) W1 w' ∧ Moved W1 v v') := fun i hi => insert_any hrow1 (by omega) hn b D hD1 hne hi
  have hW : Hid (w.alloc (.cells #[ptr b] 71) = W1 ∧ w.heap.size = D) := ⟨hW1.symm, hD⟩
  replace hs1 : Hid (Stay (fun _ => False) w W1) := hs1
  replace hr : Hid (Rises idf l) := hr
  clear hW1 hD h hid hrow1 hne hD1
  go_enter Ybaf.func97, Ybaf.ntmps97
  go_wp2_with fail
  refine hse.out.mono ?_
  rintro e wz ⟨i, fb, rfl, hwz, hi, q1, q2⟩
  rw [hwz]
  clear hwz
  replace q1 : Hid (∀ t, t < i → idf l[t]! < idf b) := q1
  replace q2 : Hid (∀ t, i ≤ t → t < l.length → idf b ≤ idf l[t]!) := q2
  go_wp2_with fail
  rw [hW.out.1, hW.out.2]
  refine (hin.out i hi).mono ?_
  rintro e w2 ⟨v', rfl, r1, r2, r3⟩
  replace r1 : Hid (Row B v' (l.take i ++ b :: l.drop i) w2) := r1
  replace r2 : Hid (Stay (fun x => v.ownBlock = some x) W1 w2) := r2
  replace r3 : Hid (Moved W1 v v') := r3
  go_wp2_with fail
  go_ret
  refine ⟨v', l.take i ++ b :: l.drop i, rfl, r1.out, perm_ins l i b, rises_ins hr.out hi q1.out q2.out, (hs1.out.mono (fun _ _ e => e.elim)).trans r2.out, ?_⟩
  rcases r3.out with e | ⟨g, e1, e2⟩
  · exact .inl e
  · exact .inr ⟨g, e1, Nat.le_trans hs1.out.size e2⟩

theorem find2 (v1 v2 : Value) (x1 x2 : Nat) (W : World) : (Instr.findKey 68 (.agg #[.int .i64 0, .int .i64 1]) [⟨.agg #[.int .i64 0, .int .i64 1], v1, x1⟩, ⟨.agg #[.int .i64 0, .int .i64 2], v2, x2⟩]).run Ybaf.prog W = .ok (some (0, v1)) W := by kernel_rfl

theorem look_two (r c x1 x2 : Nat) (v1 v2 : Value) (W : World) (h : W.heap[r]? = some (.map #[⟨.agg #[.int .i64 0, .int .i64 1], v1, x1⟩, ⟨.agg #[.int .i64 0, .int .i64 2], v2, x2⟩] c)) : (Instr.lookup 50 (.map (some r)) (.agg #[.int .i64 0, .int .i64 1]) false).run Ybaf.prog W = .ok v1 W := by
  simp [Instr.lookup, Ybaf.runUnderlying50, MapKept.run_getObj_map h, check01, find2, Result.andThen]

set_option maxRecDepth 100000 in
set_option maxHeartbeats 8000000 in
/-- hold: a copy of the own link. -/
theorem hold_any {X : Pc} {mu : Int} {vf vh : Value} {fl hl : List Nat} {h1 : Nat} {w : World} (h : Hw X mu vf fl vh hl h1 w) (hn : hl.length ≤ 900) (hh : h1 ≤ 100000) (hr : Rises X.idf hl) (b : Nat) (hb : X.ps b) (hown : X.own b = true) :
    Calls Ybaf.prog 62 #[ptr X.bM, ptr b] w fun e w' => e = .returned (.tuple #[]) ∧ ∃ vh' hl', Hw X mu vf fl vh' hl' (h1 + 1) w' ∧ hl'.Perm (b :: hl) ∧ Rises X.idf hl' ∧ Stay (fun x => vh.ownBlock = some x ∨ x = X.bM ∨ x = X.n1) w w' ∧ Moved w vh vh' := by
  have hins : Hid (Calls Ybaf.prog 97 #[vh, ptr b] w fun e w' => ∃ v' l', e = .returned v' ∧ Row X.B v' l' w' ∧ l'.Perm (b :: hl) ∧ Rises X.idf l' ∧ Stay (fun x => vh.ownBlock = some x) w w' ∧ Moved w vh v') :=
    insid_any h.hr h.hB hn X.idf (fun b hb => h.id (h.sh b hb)) hr b (h.id hb)
  have c11 := cell_in h.m (o := 11) (u := vh) rfl
  replace h : Hid (Hw X mu vf fl vh hl h1 w) := h
  go_enter Ybaf.func62, Ybaf.ntmps62
  go_wp2_with fail
  refine hins.out.mono ?_
  rintro e w1 ⟨vh', hl', rfl, r1, r2, r3, r4, r5⟩
  have hpp : ∀ x, x ∈ hl' → X.ps x := fun x hx => by
    rcases List.mem_cons.1 (r2.mem_iff.1 hx) with rfl | hx
    · exact hb
    · exact h.out.sh x hx
  have hw2 := h.out.held r4 r1 r5 hpp
  have hM1 := r4.at_ h.out.m (fun e => (h.out.apartH e).M rfl)
  have k11 := cell_in hM1 (o := 11) (u := vh) rfl
  have z11 := free_in hM1 (o := 11)
  have hst2 : Hid (Stay (fun x => vh.ownBlock = some x ∨ x = X.bM ∨ x = X.n1) w (w1.setCell ⟨X.bM, 11, none⟩ vh')) := (r4.mono (fun _ _ e => .inl e)).trans (Stay.set _ _ _ _ (.inr (.inl rfl)))
  have hcl : vh'.cells = #[vh'] ∧ vh'.oneCell' = true := by
    rcases r1.parts with ⟨rfl, _⟩ | ⟨g, cap, cur, rfl, _⟩ <;> exact ⟨rfl, rfl⟩
  obtain ⟨W2, hW2⟩ : ∃ W, W = w1.setCell ⟨X.bM, 11, none⟩ vh' := ⟨_, rfl⟩
  rw [← hW2] at hw2 hst2
  have hv' : ∃ p n c, vh' = .slice p n c := by
    rcases r1.parts with ⟨rfl, _⟩ | ⟨g, cap, cur, rfl, _⟩
    · exact ⟨_, _, _, rfl⟩
    · exact ⟨_, _, _, rfl⟩
  obtain ⟨pp, nn, cc, rfl⟩ := hv'
  have m13 := cell_in hw2.m (o := 13) (u := .map (some X.r)) rfl
  obtain ⟨tt, sq, du, hpd⟩ := hw2.pd b hb
  rw [hown] at hpd
  have p4 := cell_in hpd (o := 4) (u := .int .i64 0) rfl
  have p5 := cell_in hpd (o := 5) (u := .int .i64 1) rfl
  have n3 := cell_in hw2.l1 (o := 3) (u := .int .i64 h1) rfl
  have z3 := free_in hw2.l1 (o := 3)
  have hlk : ∀ n, (Instr.lookup 50 (.map (some X.r)) (.agg #[.int .i64 0, .int .i64 1]) false).run Ybaf.prog (W2.drewN n) = .ok (.pointer (some ⟨X.n1, 0, none⟩)) (W2.drewN n) := fun n => look_two X.r _ _ _ _ _ (W2.drewN n) hw2.mp
  have hlk1 : (Instr.lookup 50 (.map (some X.r)) (.agg #[.int .i64 0, .int .i64 1]) false).run Ybaf.prog W2.drew = .ok (.pointer (some ⟨X.n1, 0, none⟩)) W2.drew := hlk 1
  replace hw2 : Hid (Hw X mu vf fl (.slice pp nn cc) hl' h1 W2) := hw2
  replace r2 : Hid (hl'.Perm (b :: hl)) := r2
  replace r3 : Hid (Rises X.idf hl') := r3
  replace r5 : Hid (Moved w vh (.slice pp nn cc)) := r5
  replace hW2 : Hid (w1.setCell ⟨X.bM, 11, none⟩ (.slice pp nn cc) = W2) := hW2.symm
  clear r1 r4 hpp hpd hM1
  go_upto_region 1 with (fail)
  rw [hW2.out]
  clear hW2
  go_region
  all_goals go_wp2_with fail
  go_end0
  have hc := hw2.out.count (h1 + 1)
  refine ⟨rfl, .slice pp nn cc, hl', ?_, r2.out, r3.out, ?_, r5.out⟩
  · exact (hc.idle ((Stay.refl _ _).drewN 1))
  · exact (hst2.out.trans (Stay.set _ _ _ _ (.inr (.inr rfl)))).drewN 1
end Go.Proofs.YbulkcoecFmt
