import Derived.Test.YbulkcoecFmtAdd
namespace Go.Proofs.YbulkcoecFmt
open Go.RowKit Go.Deep Go.Extern.Stop Go.Stop Go.MuLone
set_option linter.unusedVariables false
set_option linter.unusedSimpArgs false

/-- The cells of a row of copies. -/
def flat (X : Pl) (its : List Item) : List Value := its.flatMap fun it => [.pointer (some ⟨it.pb, 0, none⟩), hval X.bK X.bL X.bF]

theorem flat_len (X : Pl) : ∀ its : List Item, (flat X its).length = its.length * 2
  | [] => rfl
  | it :: its => by
    have ih := flat_len X its
    simp only [flat, List.flatMap_cons, List.length_append, List.length_cons, List.length_nil] at ih ⊢
    omega

theorem flat_get (X : Pl) : ∀ (its : List Item) (j : Nat) (hj : j < its.length), (flat X its)[2 * j]? = some (.pointer (some ⟨its[j].pb, 0, none⟩)) ∧ (flat X its)[2 * j + 1]? = some (hval X.bK X.bL X.bF)
  | [], j, hj => by simp at hj
  | it :: its, 0, hj => by simp [flat]
  | it :: its, j + 1, hj => by
    have ih := flat_get X its j (by simpa using hj)
    have e1 : 2 * (j + 1) = 2 * j + 1 + 1 := by omega
    rw [e1]
    simp only [flat, List.flatMap_cons, List.cons_append, List.nil_append, List.getElem?_cons_succ, List.getElem_cons_succ] at ih ⊢
    exact ih

theorem flat_snoc (X : Pl) (its : List Item) (it : Item) : flat X (its ++ [it]) = flat X its ++ [.pointer (some ⟨it.pb, 0, none⟩), hval X.bK X.bL X.bF] := by simp [flat]

/-- A copy that waits. -/
structure Pend (X : Pl) (it : Item) (vr vlog : Value) (w : World) : Prop where
  at_ : w.heap[it.pb]? = some (.cells (pendArr it.id it.s it.to it.seq) 75 (0, 0))
  K : it.pb ≠ X.bK
  L : it.pb ≠ X.bL
  M : it.pb ≠ X.bM
  N : it.pb ≠ X.bN
  r : vr.ownBlock ≠ some it.pb
  v : vlog.ownBlock ≠ some it.pb

/-- The queue. -/
structure Qd (X : Pl) (its : List Item) (vr vlog : Value) (w : World) : Prop where
  row : w.ownsRow X.B 96 2 vr its.length (flat X its)
  ap : Apart X vr vlog
  pd : ∀ it ∈ its, Pend X it vr vlog w

theorem Pend.stay {X : Pl} {it : Item} {vr vlog : Value} {w w' : World} {S : Nat → Prop} (h : Pend X it vr vlog w) (hs : Stay S w w') (hn : ¬ S it.pb) : Pend X it vr vlog w' := ⟨hs.at_ h.at_ hn, h.K, h.L, h.M, h.N, h.r, h.v⟩

theorem Pend.new {X : Pl} {it : Item} {vr vr' vlog : Value} {w : World} (h : Pend X it vr vlog w) {w0 : World} (hr : NewRow w0 vr vr') (hl : it.pb < w0.heap.size) : Pend X it vr' vlog w := ⟨h.at_, h.K, h.L, h.M, h.N, hr.ne hl h.r, h.v⟩

/-- Of a queue that is not empty. -/
theorem Qd.rdy {X : Pl} {its : List Item} {vr vlog : Value} {w : World} (h : Qd X its vr vlog w) (hn : its ≠ []) : ∃ gr cap, Rdy X gr 0 cap its vr w ∧ vr.ownBlock = some gr := by
  have hpos : 0 < its.length := List.length_pos_iff.2 hn
  rcases h.row.2 with ⟨_, h0⟩ | ⟨g, cap, cur, hv, hb, hg, hc, hm, hsz, hx⟩
  · omega
  · have hob : vr.ownBlock = some g := by rw [hv]; rfl
    have hne : ∀ b, vr.ownBlock ≠ some b → g ≠ b := fun b hb e => hb (by rw [hob, e])
    refine ⟨g, cap, ⟨⟨0, hv, fun _ => rfl⟩, hc, ⟨cur, hg, fun j hj => ?_⟩, fun it hit => (h.pd it hit).at_, hb, hne _ h.ap.K, hne _ h.ap.L, hne _ h.ap.F, hne _ h.ap.M, hne _ h.ap.N, fun it hit => (h.pd it hit).K, fun it hit => (h.pd it hit).L, fun it hit => (h.pd it hit).M, fun it hit => (h.pd it hit).N, fun it hit e => hne _ (h.pd it hit).r e.symm⟩, hob⟩
    have hf := flat_get X its j hj
    rw [← hx] at hf
    have l1 : 2 * j < its.length * 2 := by omega
    have l2 : 2 * j + 1 < its.length * 2 := by omega
    rw [List.getElem?_take, if_pos l1, List.getElem?_take, if_pos l2] at hf
    simpa [Nat.zero_add] using hf

/-- What behind handOver stands. -/
structure Overed (X : Pl) (taken : Int) (its : List Item) (k : Nat) (vr vlog : Value) (logs : List Value) (w w' : World) (vlog' vr' : Value) (gr o cap : Nat) : Prop where
  hn : Hn X 0 taken vr' false (k + its.length) vlog' (logs ++ its.map (fun it => Value.string it.s)) w'
  rd : Rdy X gr o cap [] vr' w'
  nr : NewRow w vlog vlog'
  vg : vlog'.ownBlock ≠ some gr
  st : Stay (fun b => X.T vlog b ∨ b = X.bN ∨ vr.ownBlock = some b) w w'

set_option maxRecDepth 100000 in
set_option maxHeartbeats 4000000 in
/-- handOver where the receiver has joined. -/
theorem over_any (F : Interp) (X : Pl) (O : X.Ok) (bP r b c : Nat) (taken : Nat) (k : Nat) (its : List Item) (itc : Item) (vr vlog : Value) (logs : List Value) (w : World) (hF : F.answers w.tape) (h : Hn X 1 (taken : Int) vr false k vlog logs w) (hvp : X.vpr = .slice (some ⟨bP, 0, none⟩) 2 2) (hvm : X.vmap = .map (some r))
    (hP : w.heap[bP]? = some (.cells #[.nilFunc, .int .i64 0, .bool false, hval X.bK X.bL X.bF, .int .i64 0, .bool false] 92 (0, 0))) (hmp : w.heap[r]? = some (.map #[⟨.agg #[.int .i64 0, .int .i64 1], .pointer (some ⟨X.bN, 0, none⟩), b⟩] c))
    (hQ : Qd X its vr vlog w) (hC : Pend X itc vr vlog w) (hk : k + its.length ≤ 400) (ht : taken ≤ 1000) :
    Calls Ybaf.prog 17 #[.pointer (some ⟨X.bM, 0, none⟩), .pointer (some ⟨itc.pb, 0, none⟩)] w fun e w' =>
      (∃ vlog' vr' gr o cap, Overed X ((taken : Int) + 1) (its ++ [itc]) k vr vlog logs w w' vlog' vr' gr o cap) ∧
      (((∀ j, j < its.length + 1 → X.fs.getD (k + j) false = false) ∧ e = .returned .nilIface) ∨ ((∃ j, j < its.length + 1 ∧ X.fs.getD (k + j) false = true) ∧ ∃ a, e = .returned (.iface 161 (.pointer (some a))))) := by
  have c6 : w.cell? ⟨X.bM, 6, none⟩ = some (.slice (some ⟨bP, 0, none⟩) 2 2) := by rw [← hvp]; exact cell_in h.m (o := 6) rfl
  have c13 : w.cell? ⟨X.bM, 13, none⟩ = some (.map (some r)) := by rw [← hvm]; exact cell_in h.m (o := 13) rfl
  have p4 := cell_in hC.at_ (o := 4) (u := .int .i64 0) rfl
  have p5 := cell_in hC.at_ (o := 5) (u := .int .i64 1) rfl
  have cP : w.cell? ⟨bP, 3, none⟩ = some (.func (.func 22) #[] #[.pointer (some ⟨X.bK, 0, none⟩), .pointer (some ⟨X.bL, 0, none⟩), .pointer (some ⟨X.bF, 0, none⟩)]) := cell_in hP (o := 3) rfl
  have hne : ∀ W : World, (binOp .eql 90 (.func (.func 22) #[] #[.pointer (some ⟨X.bK, 0, none⟩), .pointer (some ⟨X.bL, 0, none⟩), .pointer (some ⟨X.bF, 0, none⟩)]) .nilFunc).run Ybaf.prog W = .ok (.bool false) W := fun W => by kernel_rfl
  have hlk : ∀ n, (Instr.lookup 50 (.map (some r)) (.agg #[.int .i64 0, .int .i64 1]) false).run Ybaf.prog (w.drewN n) = .ok (.pointer (some ⟨X.bN, 0, none⟩)) (w.drewN n) := fun n => look_one r c b _ (w.drewN n) hmp
  have c2 := cell_in h.n (o := 2) (u := .int .u64 (taken : Int)) rfl
  have z2 := free_in h.n (o := 2)
  have HH : Hid (Hn X 1 (taken : Int) vr false k vlog logs w ∧ Qd X its vr vlog w ∧ Pend X itc vr vlog w ∧ F.answers w.tape) := ⟨h, hQ, hC, hF⟩
  clear h hQ hC hF hvp hvm hP hmp
  go_enter Ybaf.func17, Ybaf.ntmps17
  go_upto_region 1 with (fail)
  go_quiet (fail)
  obtain ⟨nq1, hnq1⟩ : ∃ x, x = nq := ⟨_, rfl⟩
  subst hnq1
  go_upto_region 6 with (fail)
  go_quiet (fail)
  go_upto_region 8 with (fail)
  obtain ⟨nq2, hnq2⟩ : ∃ x, x = nq := ⟨_, rfl⟩
  subst hnq2
  obtain ⟨W1, hW1⟩ : ∃ W, W = (w.drewN (nq1 + nq2)).setCell ⟨X.bN, 2, none⟩ (.int .u64 ((taken : Int) + 1)) := ⟨_, rfl⟩
  obtain ⟨h, hQ, hC, hF⟩ := HH.out
  have hs1 : Stay (fun b => b = X.bN) w W1 := by rw [hW1]; exact ((Stay.refl _ w).drewN _).trans (Stay.set _ _ _ _ rfl)
  have h1 : Hn X 1 ((taken : Int) + 1) vr false k vlog logs W1 := by
    rw [hW1]
    exact (h.idle ((Stay.refl _ w).drewN _)).taken O _
  have hrow1 := hs1.row hQ.row (fun g hg e => hQ.ap.N (by rw [hg, e]))
  have HAD : Hid (Calls Ybaf.prog 25 #[.pointer (some ⟨X.bN, 5, none⟩), .agg #[.pointer (some ⟨itc.pb, 0, none⟩), .func (.func 22) #[] #[.pointer (some ⟨X.bK, 0, none⟩), .pointer (some ⟨X.bL, 0, none⟩), .pointer (some ⟨X.bF, 0, none⟩)]]] W1 fun e w' => e = .returned (.tuple #[]) ∧
      ∃ vr', Hn X 1 ((taken : Int) + 1) vr' false k vlog logs w' ∧ w'.ownsRow X.B 96 2 vr' (its.length + 1) (flat X its ++ [.pointer (some ⟨itc.pb, 0, none⟩), hval X.bK X.bL X.bF]) ∧ Stay (fun b => b = X.bN ∨ vr.ownBlock = some b) W1 w' ∧ NewRow W1 vr vr' ∧ Apart X vr' vlog) :=
    add_any X O h1 its.length (flat X its) hrow1 hQ.ap (by omega) itc.pb
  have HS1 : Hid (Stay (fun b => b = X.bN) w W1) := hs1
  rw [← hW1]
  clear hW1 h hQ hC hF hs1 h1 hrow1 c6 c13 p4 p5 cP hne hlk c2 z2
  go_upto_region 9 with (go_at_call 25; refine HAD.out.mono ?_; rintro _ w2 ⟨rfl, vr2, a1, a2, a3, a4, a5⟩; have HA : Hid (Hn X 1 ((taken : Int) + 1) vr2 false k vlog logs w2 ∧ w2.ownsRow X.B 96 2 vr2 (its.length + 1) (flat X its ++ [.pointer (some ⟨itc.pb, 0, none⟩), hval X.bK X.bL X.bF]) ∧ Stay (fun b => b = X.bN ∨ vr.ownBlock = some b) W1 w2 ∧ NewRow W1 vr vr2 ∧ Apart X vr2 vlog) := ⟨a1, a2, a3, a4, a5⟩; clear a1 a2 a3 a4 a5)
  obtain ⟨a1, a2, a3, a4, a5⟩ := HA.out
  obtain ⟨h, hQ, hC, hF⟩ := HH.out
  have cM := cell_in a1.m (o := 4) (u := .int .i32 1) rfl
  have zM := free_in a1.m (o := 4)
  obtain ⟨W3, hW3⟩ : ∃ W, W = w2.setCell ⟨X.bM, 4, none⟩ (.int .i32 0) := ⟨_, rfl⟩
  have HUL : Hid (Calls Ybaf.prog 19 #[.pointer (some ⟨X.bM, 4, none⟩)] w2 fun e w' => e = .returned (.tuple #[]) ∧ w' = W3) := by
    have := unlock_held Ybaf.muLib ⟨X.bM, 4, none⟩ w2 cM zM
    rw [← hW3] at this
    exact this
  have h3 := a1.lock O 0
  rw [← hW3] at h3
  have hs3 : Stay (fun b => b = X.bM) w2 W3 := by rw [hW3]; exact Stay.set _ _ _ _ rfl
  have hsA : Stay (fun b => b = X.bN ∨ vr.ownBlock = some b) w w2 := (HS1.out.mono (fun _ _ e => .inl e)).trans a3
  have hs : Stay (fun b => X.T vlog b ∨ b = X.bN ∨ vr.ownBlock = some b) w W3 := (hsA.mono (fun _ _ e => .inr e)).trans' hs3 (fun _ _ e => .inl (.inr e))
  have hpq : ∀ it, Pend X it vr vlog w → Pend X it vr2 vlog W3 := fun it hp => by
    have q1 := hp.stay hsA (by rintro (e | e); exact hp.N e; exact hp.r e)
    have q2 := q1.new a4 (Nat.lt_of_lt_of_le (lt_of hp.at_) HS1.out.size)
    exact q2.stay hs3 hp.M
  have hQ3 : Qd X (its ++ [itc]) vr2 vlog W3 := by
    refine ⟨?_, a5, fun it hit => ?_⟩
    · have hl : (its ++ [itc]).length = its.length + 1 := by simp
      rw [hl, flat_snoc]
      exact hs3.row a2 (fun g hg e => a5.M (by rw [hg, e]))
    · rcases List.mem_append.1 hit with hi | hi
      · exact hpq it (hQ.pd it hi)
      · simp at hi
        subst hi
        exact hpq it hC
  obtain ⟨gr, cap, hR3, hgr⟩ := hQ3.rdy (by simp)
  have hvg : vlog.ownBlock ≠ some gr := fun e => a5.V gr e hgr
  have hlen : (its ++ [itc]).length = its.length + 1 := by simp
  have HRN : Hid (Calls Ybaf.prog 27 #[.pointer (some ⟨X.bN, 5, none⟩)] W3 fun e w' => (∃ vlog' vr' gr o cap, Overed X ((taken : Int) + 1) (its ++ [itc]) k vr vlog logs w w' vlog' vr' gr o cap) ∧
      ∃ v, e = .returned v ∧ (((∀ j, j < its.length + 1 → X.fs.getD (k + j) false = false) ∧ v = .nilIface) ∨ ((∃ j, j < its.length + 1 ∧ X.fs.getD (k + j) false = true) ∧ ∃ a, v = .iface 161 (.pointer (some a))))) := by
    refine (run_any F X O gr 0 cap (its ++ [itc]) ((taken : Int) + 1) vr2 k vlog logs W3 (by rw [hs.tape]; exact hF) h3 hR3 (by rw [hlen]; omega) hvg (fun it hit => (hQ3.pd it hit).v)).mono ?_
    rintro e w' ⟨⟨vlog', vr', r1, r2, r3⟩, r4, r5⟩
    have hgl : gr < W3.heap.size := by obtain ⟨cur, c1, _⟩ := hR3.row; exact lt_of c1
    refine ⟨⟨vlog', vr', gr, _, _, ⟨r1, r2, ?_, r3.ne hgl hvg, ?_⟩⟩, ?_⟩
    · rcases r3 with e | ⟨g, g1, g2⟩
      · exact .inl e
      · exact .inr ⟨g, Nat.le_trans hs.size g1, g2⟩
    · refine hs.trans' r4 (fun bb hb e => ?_)
      rcases e with e | e | e
      · exact .inl e
      · exact .inr (.inl e)
      · subst e
        refine .inr (.inr ?_)
        rcases a4 with e' | ⟨g, g1, g2⟩
        · rw [← e']; exact hgr
        · rw [g2] at hgr
          have h9 := Option.some.inj hgr
          have h8 := HS1.out.size
          omega
    · rw [hlen] at r5
      rcases r5 with ⟨s1, rfl⟩ | ⟨s1, a, rfl⟩
      · exact ⟨_, rfl, .inl ⟨s1, rfl⟩⟩
      · exact ⟨_, rfl, .inr ⟨s1, a, rfl⟩⟩
  clear a1 a2 a3 a4 a5 h hQ hC hF cM zM hW3 h3 hs3 hsA hs hpq hQ3 hR3 hgr hvg hlen
  go_wp2_with (first | (go_at_call 19; refine HUL.out.mono ?_; rintro _ wx ⟨rfl, hwx⟩; rw [hwx]; clear hwx wx) | (go_at_call 27; refine HRN.out.mono ?_; rintro _ w9 ⟨b1, v9, rfl, b2⟩; have HB1 : Hid _ := b1; have HB2 : Hid (((∀ j, j < its.length + 1 → X.fs.getD (k + j) false = false) ∧ v9 = .nilIface) ∨ ((∃ j, j < its.length + 1 ∧ X.fs.getD (k + j) false = true) ∧ ∃ a, v9 = .iface 161 (.pointer (some a)))) := b2; clear b1 b2))
  go_ret
  refine ⟨HB1.out, ?_⟩
  rcases HB2.out with ⟨s1, e1⟩ | ⟨s1, a, e1⟩
  · refine .inl ⟨s1, ?_⟩
    rw [← e1]
    rfl
  · refine .inr ⟨s1, a, ?_⟩
    rw [← e1]
    rfl
end Go.Proofs.YbulkcoecFmt
