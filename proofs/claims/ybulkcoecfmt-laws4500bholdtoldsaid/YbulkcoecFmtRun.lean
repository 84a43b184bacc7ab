import Derived.Test.YbulkcoecFmtRunTwo
import Derived.Test.YbulkcoecFmtJoin
import Derived.Laws.EntriesVeiled
namespace Go.Proofs.YbulkcoecFmt
open Go.RowKit Go.Deep Go.Extern.Stop Go.Stop Go.MuLone
set_option linter.unusedVariables false
set_option linter.unusedSimpArgs false

/-- clear of one delivery. -/
theorem clear_one (ty : TypeId) (g o c : Nat) (x y : Value) (W : World) (h0 : W.cell? ⟨g, o, none⟩ = some x) (h1 : W.cell? ⟨g, o + 1, none⟩ = some y) (z0 : W.frozen? ⟨g, o, none⟩ = false) (z1 : W.frozen? ⟨g, o + 1, none⟩ = false) :
    (Builtin.clear_ #[82] ty #[.slice (some ⟨g, o, none⟩) 1 c]).run Ybaf.prog W = .ok (.tuple #[]) ((W.setCell ⟨g, o, none⟩ (.pointer none)).setCell ⟨g, o + 1, none⟩ .nilFunc) := by
  have hz : Builtin.zeroCells #[Value.pointer none, Value.nilFunc] 1 = #[Value.pointer none, Value.nilFunc] := by kernel_rfl
  simp [Builtin.clear_, go_sem, Ybaf.runUnderlying82, Ybaf.zeroValue96, hz, storeCells, stored, h0, h1, z0, z1]

structure Item where
  pb : Nat
  id : Int
  s : ByteArray
  to : ByteArray
  seq : Int

/-- The copies that are ready. -/
structure Rdy (X : Pl) (gr o cap : Nat) (its : List Item) (vr : Value) (w : World) : Prop where
  vr : ∃ o2, vr = .slice (some ⟨gr, o2, none⟩) its.length cap ∧ (its ≠ [] → o2 = o)
  cap : its.length ≤ cap
  row : ∃ cur, w.heap[gr]? = some (.cells cur 96 (0, 0)) ∧ ∀ j (hj : j < its.length), cur[o + 2 * j]? = some (.pointer (some ⟨its[j].pb, 0, none⟩)) ∧ cur[o + 2 * j + 1]? = some (hval X.bK X.bL X.bF)
  pend : ∀ it ∈ its, w.heap[it.pb]? = some (.cells (pendArr it.id it.s it.to it.seq) 75 (0, 0))
  gB : X.B ≤ gr
  gK : gr ≠ X.bK
  gL : gr ≠ X.bL
  gF : gr ≠ X.bF
  gM : gr ≠ X.bM
  gN : gr ≠ X.bN
  pK : ∀ it ∈ its, it.pb ≠ X.bK
  pL : ∀ it ∈ its, it.pb ≠ X.bL
  pM : ∀ it ∈ its, it.pb ≠ X.bM
  pN : ∀ it ∈ its, it.pb ≠ X.bN
  pg : ∀ it ∈ its, it.pb ≠ gr

/-- Run's closure: handing is over. -/
theorem run1_any (X : Pl) (O : X.Ok) (bQ : Nat) (u : FrameMode) {mu taken : Int} {vr : Value} {hd : Bool} {k : Nat} {vlog : Value} {logs : List Value} (w : World) (h : Hn X mu taken vr hd k vlog logs w) (hq : w.heap[bQ]? = some (.cells #[.pointer (some ⟨X.bN, 5, none⟩)] 131 (0, 0))) :
    CallsD Ybaf.prog 49 #[.pointer (some ⟨bQ, 0, none⟩)] u w fun e u' w' => u' = u ∧ (e = .returned (.tuple #[]) ∧ w' = w.setCell ⟨X.bN, 9, none⟩ (.bool false)) := by
  have cq := cell_in hq (o := 0) (u := .pointer (some ⟨X.bN, 5, none⟩)) rfl
  have c9 := cell_in h.n (o := 9) (u := .bool hd) rfl
  have z9 := free_in h.n (o := 9)
  clear h hq
  go_enter_d Ybaf.func49, Ybaf.ntmps49
  go_wp2
  go_end0
  exact ⟨rfl, rfl⟩

theorem Rdy.stay {X : Pl} {gr o cap : Nat} {its : List Item} {vr : Value} {w w' : World} {S : Nat → Prop} (h : Rdy X gr o cap its vr w) (hs : Stay S w w') (h1 : ¬ S gr) (h2 : ∀ it ∈ its, ¬ S it.pb) : Rdy X gr o cap its vr w' := by
  obtain ⟨cur, c1, c2⟩ := h.row
  exact ⟨h.vr, h.cap, ⟨cur, hs.at_ c1 h1, c2⟩, fun it hit => hs.at_ (h.pend it hit) (h2 it hit), h.gB, h.gK, h.gL, h.gF, h.gM, h.gN, h.pK, h.pL, h.pM, h.pN, h.pg⟩

/-- Some answer of the first n was a refusal. -/
def Said (fs : List Bool) (k n m : Nat) : Prop := (m = 0 ∧ ∀ j, j < n → fs.getD (k + j) false = false) ∨ (0 < m ∧ ∃ j, j < n ∧ fs.getD (k + j) false = true)

/-- What the loop holds. -/
structure Lp (X : Pl) (gr o cap bQ : Nat) (its : List Item) (taken : Int) (k : Nat) (vlog : Value) (logs : List Value) (w : World) (n : Nat) (ve : Value) (wr : World) (pre post : List Item) (errs : List Value) (vlog' vr' : Value) : Prop where
  cut : its = pre ++ post
  num : n = post.length
  hn : Hn X 1 taken vr' true (k + pre.length) vlog' (logs ++ pre.map (fun it => Value.string it.s)) wr
  rd : Rdy X gr (o + 2 * pre.length) (cap - pre.length) post vr' wr
  nr : NewRow w vlog vlog'
  hq : wr.heap[bQ]? = some (.cells #[.pointer (some ⟨X.bN, 5, none⟩)] 131 (0, 0))
  st : Stay (fun b => X.T vlog b ∨ b = X.bN ∨ b = gr) w wr
  er : wr.ownsRow (bQ + 1) 39 1 ve errs.length errs
  es : Errs errs
  el : errs.length ≤ pre.length
  sd : Said X.fs k pre.length errs.length
  vg : vlog'.ownBlock ≠ some gr
  vq : vlog'.ownBlock ≠ some bQ
  vp : ∀ it ∈ post, vlog'.ownBlock ≠ some it.pb
  ve : ∀ g, ve.ownBlock = some g → vlog'.ownBlock ≠ some g

theorem NewRow.trans {w w2 : World} {v v1 v2 : Value} (h : NewRow w v v1) (h2 : NewRow w2 v1 v2) (hs : w.heap.size ≤ w2.heap.size) : NewRow w v v2 := by
  rcases h2 with e | ⟨g, g1, g2⟩
  · rcases h with e' | ⟨g, g1, g2⟩
    · exact .inl (e.trans e')
    · exact .inr ⟨g, g1, e.trans g2⟩
  · exact .inr ⟨g, Nat.le_trans hs g1, g2⟩

/-- A round. -/
theorem Lp.step {X : Pl} (O : X.Ok) {gr o cap bQ : Nat} {its : List Item} {taken : Int} {k : Nat} {vlog : Value} {logs : List Value} {w : World} {n : Nat} {ve : Value} {wr : World} {pre post : List Item} {it : Item} {errs : List Value} {vlog' vr' : Value}
    (hl : Lp X gr o cap bQ its taken k vlog logs w n ve wr pre (it :: post) errs vlog' vr') (hw : w.heap.size = bQ) (bM : X.bM < bQ) (bN : X.bN < bQ) (bK : X.bK < bQ) (bL : X.bL < bQ) (bF : X.bF < bQ) (bg : gr < bQ) (hpb : ∀ it ∈ its, it.pb < bQ)
    {WD w5 w6 : World} {cur2 : Array Value} (hsD : Stay (fun b => b = gr ∨ b = X.bN ∨ b = X.bM) wr WD) (hgD : WD.heap[gr]? = some (.cells cur2 96 (0, 0))) (hcur : ∀ j (hj : j < post.length), cur2[o + 2 * (pre.length + 1) + 2 * j]? = some (.pointer (some ⟨post[j].pb, 0, none⟩)) ∧ cur2[o + 2 * (pre.length + 1) + 2 * j + 1]? = some (hval X.bK X.bL X.bF))
    {vlog2 vr2 ve2 : Value} {errs2 : List Value} (hs5 : Stay (X.T vlog') WD w5) (hn5 : Hn X 1 taken vr2 true (k + pre.length + 1) vlog2 ((logs ++ pre.map (fun it => Value.string it.s)) ++ [.string it.s]) w5) (nr5 : NewRow WD vlog' vlog2)
    (hvr2 : ∃ o2, vr2 = .slice (some ⟨gr, o2, none⟩) post.length (cap - (pre.length + 1)) ∧ (post ≠ [] → o2 = o + 2 * (pre.length + 1)))
    (hs6 : Stay (fun b => ve.ownBlock = some b) w5 w6) (er6 : w6.ownsRow (bQ + 1) 39 1 ve2 errs2.length errs2) (es6 : Errs errs2) (el6 : errs2.length ≤ pre.length + 1) (sd6 : Said X.fs k (pre.length + 1) errs2.length) (ve6 : NewRow w5 ve ve2) :
    Lp X gr o cap bQ its taken k vlog logs w post.length ve2 w6 (pre ++ [it]) post errs2 vlog2 vr2 := by
  have hlen : (pre ++ [it]).length = pre.length + 1 := by simp
  have hveb : ∀ g, ve.ownBlock = some g → bQ + 1 ≤ g ∧ g < wr.heap.size := fun g hg => hl.er.lt g hg
  have hsub : ∀ i ∈ post, i ∈ its := fun i hi => by rw [hl.cut]; simp [hi]
  have hS' : ∀ b, X.T vlog' b ↔ (b = X.bK ∨ b = X.bL ∨ vlog'.ownBlock = some b ∨ b = X.bM) := fun b => by
    unfold Pl.T Hs.S
    constructor
    · rintro ((e | e | e) | e)
      · exact .inl e
      · exact .inr (.inl e)
      · exact .inr (.inr (.inl e))
      · exact .inr (.inr (.inr e))
    · rintro (e | e | e | e)
      · exact .inl (.inl e)
      · exact .inl (.inr (.inl e))
      · exact .inl (.inr (.inr e))
      · exact .inr e
  have hgT : ¬ X.T vlog' gr := by
    rw [hS']
    rintro (e | e | e | e)
    · exact hl.rd.gK e
    · exact hl.rd.gL e
    · exact hl.vg e
    · exact hl.rd.gM e
  have hrs : wr.heap.size ≤ WD.heap.size := hsD.size
  have hv2 : ∀ b, b < wr.heap.size → vlog'.ownBlock ≠ some b → vlog2.ownBlock ≠ some b := fun b hb hv => nr5.ne (Nat.lt_of_lt_of_le hb hrs) hv
  refine ⟨by rw [hl.cut]; simp, rfl, ?_, ?_, hl.nr.trans nr5 (Nat.le_trans hl.st.size hrs), ?_, ?_, er6, es6, by rw [hlen]; exact el6, by rw [hlen]; exact sd6, hv2 gr (by have := lt_of hl.hq; omega) hl.vg, hv2 bQ (lt_of hl.hq) hl.vq, fun i hi => hv2 i.pb (by have := lt_of hl.hq; have := hpb i (hsub i hi); omega) (hl.vp i (by simp [hi])), fun g hg => ?_⟩
  · have h1 := hn5.stay hs6 (fun b hb e => by have := hveb b e; have := O.BM; omega) (fun e => by have := hveb _ e; omega) (fun e => by have := hveb _ e; omega) (fun e => by have := hveb _ e; omega) (fun g hg e => hv2 g (hveb g e).2 (hl.ve g e) hg) (fun e => by have := hveb _ e; omega) (fun e => by have := hveb _ e; omega)
    rw [hlen]
    simpa [Nat.add_assoc] using h1
  · rw [hlen]
    refine ⟨hvr2, ?_, ⟨cur2, hs6.at_ (hs5.at_ hgD hgT) (fun e => by have := hveb _ e; omega), hcur⟩, fun i hi => ?_, hl.rd.gB, hl.rd.gK, hl.rd.gL, hl.rd.gF, hl.rd.gM, hl.rd.gN, fun i hi => hl.rd.pK i (by simp [hi]), fun i hi => hl.rd.pL i (by simp [hi]), fun i hi => hl.rd.pM i (by simp [hi]), fun i hi => hl.rd.pN i (by simp [hi]), fun i hi => hl.rd.pg i (by simp [hi])⟩
    · have h1 := hl.rd.cap
      simp at h1
      omega
    · have hi' : i ∈ it :: post := by simp [hi]
      have h1 := hsD.at_ (hl.rd.pend i hi') (by rintro (e | e | e); exact hl.rd.pg i hi' e; exact hl.rd.pN i hi' e; exact hl.rd.pM i hi' e)
      have h2 := hs5.at_ h1 (by rw [hS']; rintro (e | e | e | e); exact hl.rd.pK i hi' e; exact hl.rd.pL i hi' e; exact hl.vp i hi' e; exact hl.rd.pM i hi' e)
      exact hs6.at_ h2 (fun e => by have := hveb _ e; have := hpb i (hsub i hi); omega)
  · have h1 := hsD.at_ hl.hq (by rintro (e | e | e) <;> omega)
    have h2 := hs5.at_ h1 (by rw [hS']; rintro (e | e | e | e); omega; omega; exact hl.vq e; omega)
    exact hs6.at_ h2 (fun e => by have := hveb _ e; omega)
  · refine ((hl.st.trans' hsD (fun b hb e => ?_)).trans' hs5 (fun b hb e => ?_)).trans' hs6 (fun b hb e => ?_)
    · rcases e with e | e | e
      · exact .inr (.inr e)
      · exact .inr (.inl e)
      · exact .inl (.inr e)
    · rw [hS'] at e
      rcases e with e | e | e | e
      · exact .inl (.inl (.inl e))
      · exact .inl (.inl (.inr (.inl e)))
      · refine .inl (.inl (.inr (.inr ?_)))
        rcases hl.nr with e' | ⟨g, g1, g2⟩
        · rw [← e']; exact e
        · rw [g2] at e
          have := Option.some.inj e
          omega
      · exact .inl (.inr e)
    · have := hveb b e; omega
  · rcases ve6 with e | ⟨g', g1, g2⟩
    · rw [e] at hg
      exact hv2 g (hveb g hg).2 (hl.ve g hg)
    · rw [g2] at hg
      have := Option.some.inj hg
      subst this
      intro e
      have := (hn5.hs.row.lt _ e).2
      omega

set_option maxRecDepth 100000 in
set_option maxHeartbeats 4000000 in
theorem run_any (F : Interp) (X : Pl) (O : X.Ok) (gr o cap : Nat) (its : List Item) (taken : Int) (vr : Value) (k : Nat) (vlog : Value) (logs : List Value) (w : World) (hF : F.answers w.tape) (h : Hn X 0 taken vr false k vlog logs w) (hR : Rdy X gr o cap its vr w) (hk : k + its.length ≤ 500) (hvg : vlog.ownBlock ≠ some gr) (hvp : ∀ it ∈ its, vlog.ownBlock ≠ some it.pb) :
    Calls Ybaf.prog 27 #[.pointer (some ⟨X.bN, 5, none⟩)] w fun e w' =>
      (∃ vlog' vr', Hn X 0 taken vr' false (k + its.length) vlog' (logs ++ its.map (fun it => Value.string it.s)) w' ∧ Rdy X gr (o + 2 * its.length) (cap - its.length) [] vr' w' ∧ NewRow w vlog vlog') ∧ Stay (fun b => X.T vlog b ∨ b = X.bN ∨ b = gr) w w' ∧
      (((∀ j, j < its.length → X.fs.getD (k + j) false = false) ∧ e = .returned .nilIface) ∨ ((∃ j, j < its.length ∧ X.fs.getD (k + j) false = true) ∧ ∃ a, e = .returned (.iface 161 (.pointer (some a))))) := by
  obtain ⟨bQ, hbQ⟩ : ∃ D, w.heap.size = D := ⟨_, rfl⟩
  obtain ⟨W1, hW1⟩ : ∃ W, W = w.alloc (.cells #[.pointer (some ⟨X.bN, 5, none⟩)] 131) := ⟨_, rfl⟩
  have hs1 : Stay (fun _ => False) w W1 := by rw [hW1]; exact Stay.alloc _ _ _
  have hq1 : W1.heap[bQ]? = some (.cells #[.pointer (some ⟨X.bN, 5, none⟩)] 131 (0, 0)) := by rw [hW1, ← hbQ]; exact heap_alloc_new w _
  have h1 := h.idle hs1
  have cq1 := cell_in hq1 (o := 0) (u := .pointer (some ⟨X.bN, 5, none⟩)) rfl
  have c5 := cell_in h1.n (o := 5) (u := .pointer (some ⟨X.bM, 4, none⟩)) rfl
  have cM := cell_in h1.m (o := 4) (u := .int .i32 0) rfl
  have zM := free_in h1.m (o := 4)
  have h2 := h1.lock O 1
  obtain ⟨W2, hW2⟩ : ∃ W, W = W1.setCell ⟨X.bM, 4, none⟩ (.int .i32 1) := ⟨_, rfl⟩
  have hs2 : Stay (fun b => b = X.bM) W1 W2 := by rw [hW2]; exact Stay.set _ _ _ _ rfl
  have hbM : bQ ≠ X.bM := by have := lt_of h.m; omega
  have hbN : bQ ≠ X.bN := by have := lt_of h.n; omega
  have hq2 := hs2.at_ hq1 hbM
  rw [← hW2] at h2
  have cq2 := cell_in hq2 (o := 0) (u := .pointer (some ⟨X.bN, 5, none⟩)) rfl
  have c52 := cell_in h2.n (o := 5) (u := .pointer (some ⟨X.bM, 4, none⟩)) rfl
  have c92 := cell_in h2.n (o := 9) (u := .bool false) rfl
  have z92 := free_in h2.n (o := 9)
  have HLK : Hid (Calls Ybaf.prog 16 #[.pointer (some ⟨X.bM, 4, none⟩)] W1 fun e w' => e = .returned (.tuple #[]) ∧ w' = W2) := by
    have := lock_free Ybaf.muLib ⟨X.bM, 4, none⟩ W1 cM zM
    rw [← hW2] at this
    exact this
  have HW1 : Hid (w.alloc (.cells #[.pointer (some ⟨X.bN, 5, none⟩)] 131) = W1 ∧ w.heap.size = bQ) := ⟨hW1.symm, hbQ⟩
  clear hW1 hW2 hbQ cM zM
  go_enter_defers Ybaf.func27, Ybaf.ntmps27
  go_upto_region 1 with (fail)
  rw [HW1.out.1, HW1.out.2]
  go_upto_region 7 with (go_at_call 16; refine HLK.out.mono ?_; rintro _ wx ⟨rfl, hwx⟩; rw [hwx]; clear hwx wx)
  obtain ⟨W3, hW3⟩ : ∃ W, W = W2.setCell ⟨X.bN, 9, none⟩ (.bool true) := ⟨_, rfl⟩
  have h3 := h2.hand O true
  have hs3 : Stay (fun b => b = X.bN) W2 W3 := by rw [hW3]; exact Stay.set _ _ _ _ rfl
  rw [← hW3] at h3 ⊢
  have hst : Stay (fun b => X.T vlog b ∨ b = X.bN ∨ b = gr) w W3 :=
    ((hs1.mono (fun _ _ e => e.elim)).trans' hs2 (fun b _ e => .inl (.inr e))).trans' hs3 (fun b _ e => .inr (.inl e))
  have hbg : bQ ≠ gr := by obtain ⟨cur, c1, _⟩ := hR.row; have h8 := lt_of c1; have h9 := HW1.out.2; omega
  have hL0 : Lp X gr o cap bQ its taken k vlog logs w its.length (.slice none 0 0) W3 [] its [] vlog vr := by
    refine ⟨rfl, rfl, by simpa using h3, ?_, .inl rfl, hs3.at_ hq2 hbN, hst, World.ownsRow_nil _ _ _ _, (fun v hv => (by cases hv)), Nat.le_refl _, .inl ⟨rfl, fun j hj => (by simp at hj)⟩, hvg, fun e => ?_, hvp, (fun g hg => (by cases hg))⟩
    · have r1 := hR.stay hs1 (fun e => e) (fun _ _ e => e)
      have r2 := r1.stay hs2 hR.gM (fun it hit => hR.pM it hit)
      exact r2.stay hs3 hR.gN (fun it hit => hR.pN it hit)
    · have h8 := (h.hs.row.lt bQ e).2; have h9 := HW1.out.2; omega
  have HL0 : Hid (Lp X gr o cap bQ its taken k vlog logs w its.length (.slice none 0 0) W3 [] its [] vlog vr) := hL0
  have HBQ : Hid (w.heap.size = bQ ∧ X.bM < bQ ∧ X.bN < bQ ∧ X.bK < bQ ∧ X.bL < bQ ∧ X.bF < bQ ∧ gr < bQ ∧ F.answers w.tape ∧ (∀ it ∈ its, it.pb < bQ)) := by
    obtain ⟨cur, c1, _⟩ := hR.row
    have h8 := lt_of c1; have h9 := HW1.out.2; have a1 := lt_of h.m; have a2 := lt_of h.n; have a3 := lt_of h.hs.hk; have a4 := lt_of h.hs.hl; have a5 := lt_of h.hs.hf
    exact ⟨h9, by omega, by omega, by omega, by omega, by omega, by omega, hF, fun it hit => by have h7 := lt_of (hR.pend it hit); omega⟩
  have HHW : Hid (Hn X 0 taken vr false k vlog logs w) := h
  clear hF h hR hvg hvp hs1 hq1 h1 cq1 c5 h2 hs2 hbM hbN hq2 cq2 c52 c92 z92 HLK HW1 hW3 h3 hs3 hst hbg hL0
  clear W1 W2
  go_wp2
  go_loopg [3] its.length (fun n ve wr => ∃ pre post errs vlog' vr', Lp X gr o cap bQ its taken k vlog logs w n ve wr pre post errs vlog' vr')
  case atStart => exact ⟨_, _, _, _, _, HL0.out⟩
  case round =>
    obtain ⟨pre, post, errs, vlog', vr', hl⟩ := hrel
    cases post with
    | nil =>
      obtain ⟨o2, hvr, _⟩ := hl.rd.vr
      simp only [List.length_nil] at hvr
      have cq := cell_in hl.hq (o := 0) (u := .pointer (some ⟨X.bN, 5, none⟩)) rfl
      have c8 := cell_in hl.hn.n (o := 8) (u := vr') rfl
      rw [hvr] at c8
      have hel : errs.length ≤ 900 := by have h1 := hl.el; have h2 := congrArg List.length hl.cut; simp at h2; omega
      have HJN : Hid (Calls Ybaf.prog 51 #[u3] wr fun e w' => Stay (fun _ => False) wr w' ∧ ∃ v, e = .returned v ∧ ((errs.length = 0 ∧ v = .nilIface) ∨ (0 < errs.length ∧ ∃ a, v = .iface 161 (.pointer (some a))))) :=
        (join_any (bQ + 1) errs.length u3 errs wr hl.er hl.es hel (lt_of hl.hq)).mono (by
          rintro e w' ⟨h1, ⟨h2, rfl⟩ | ⟨h2, a, rfl⟩⟩
          · exact ⟨h1, _, rfl, .inl ⟨h2, rfl⟩⟩
          · exact ⟨h1, _, rfl, .inr ⟨h2, a, rfl⟩⟩)
      have HL : Hid (Lp X gr o cap bQ its taken k vlog logs w gk u3 wr pre [] errs vlog' vr') := hl
      clear hl hvr
      go_wp2_with (first | (go_at_call 51; refine HJN.out.mono ?_; rintro _ w9 ⟨hs9, v9, rfl, he9⟩; have HS9 : Hid (Stay (fun _ => False) wr w9) := hs9; have HE9 : Hid ((errs.length = 0 ∧ v9 = .nilIface) ∨ (0 < errs.length ∧ ∃ a, v9 = .iface 161 (.pointer (some a)))) := he9; clear hs9 he9))
      have hl := HL.out
      have hn9 := hl.hn.idle HS9.out
      have hq9 := HS9.out.at_ hl.hq (fun e => e)
      refine leaves_cons (f := 49) (args := #[.pointer (some ⟨bQ, 0, none⟩)]) (by simp) (by simp [go_sem]) ?_
      refine (run1_any X O bQ .returning w9 hn9 hq9).mono ?_
      rintro e u' w10 ⟨rfl, rfl, hw10⟩
      have hn10 := hn9.hand O false
      rw [← hw10] at hn10
      have cM := cell_in hn10.m (o := 4) (u := .int .i32 1) rfl
      have zM := free_in hn10.m (o := 4)
      refine leaves_cons (f := 19) (args := #[.pointer (some ⟨X.bM, 4, none⟩)]) (by simp [settle]) (by simp [go_sem]) ?_
      refine (unlock_deferred Ybaf.muLib ⟨X.bM, 4, none⟩ _ w10 cM zM).mono ?_
      rintro e u'' w11 ⟨rfl, rfl, hw11⟩
      have hn11 := hn10.lock O 0
      rw [← hw11] at hn11
      have s10 : Stay (fun b => b = X.bN) w9 w10 := by rw [hw10]; exact Stay.set _ _ _ _ rfl
      have s11 : Stay (fun b => b = X.bM) w10 w11 := by rw [hw11]; exact Stay.set _ _ _ _ rfl
      have hcut := hl.cut
      rw [List.append_nil] at hcut
      subst hcut
      refine ⟨_, results_tmp rfl _ _ _, ⟨vlog', vr', hn11, ?_, hl.nr⟩, ?_, ?_⟩
      · exact ((hl.rd.stay HS9.out (fun e => e) (fun _ _ e => e)).stay s10 hl.rd.gN (fun it hit => by cases hit)).stay s11 hl.rd.gM (fun it hit => by cases hit)
      · exact ((hl.st.trans' HS9.out (fun _ _ e => e.elim)).trans' s10 (fun b _ e => .inr (.inl e))).trans' s11 (fun b _ e => .inl (.inr e))
      · rcases hl.sd with ⟨a1, a2⟩ | ⟨a1, a2⟩
        · rcases HE9.out with ⟨_, e1⟩ | ⟨e0, _⟩
          · rw [e1]; exact .inl ⟨a2, rfl⟩
          · omega
        · rcases HE9.out with ⟨e0, _⟩ | ⟨_, a, e1⟩
          · omega
          · rw [e1]; exact .inr ⟨a2, a, rfl⟩
    | cons it post =>
      obtain ⟨cur, hc1, hc2⟩ := hl.rd.row
      have hc20 := hc2 0 (by simp)
      obtain ⟨o', ho'⟩ : ∃ x, o + 2 * pre.length = x := ⟨_, rfl⟩
      obtain ⟨cap', hcap'⟩ : ∃ x, cap - pre.length = x := ⟨_, rfl⟩
      obtain ⟨n1, hn1⟩ : ∃ x, (it :: post).length = x := ⟨_, rfl⟩
      have hvr : vr' = .slice (some ⟨gr, o + 2 * pre.length, none⟩) (it :: post).length (cap - pre.length) := by
        obtain ⟨o2, h1, h2⟩ := hl.rd.vr
        rw [h1, h2 (by simp)]
      have HVR : Hid (vr' = .slice (some ⟨gr, o + 2 * pre.length, none⟩) (it :: post).length (cap - pre.length)) := hvr
      have hcp := hl.rd.cap
      rw [ho', hcap', hn1] at hvr
      rw [hn1, hcap'] at hcp
      have hn0 : 1 ≤ n1 := by rw [← hn1]; simp
      have hn5 : n1 ≤ 500 := by rw [← hn1]; have h2 := congrArg List.length hl.cut; simp at h2 ⊢; omega
      simp only [Nat.mul_zero, Nat.add_zero, List.getElem_cons_zero] at hc20
      rw [ho'] at hc20
      have cq := cell_in hl.hq (o := 0) (u := .pointer (some ⟨X.bN, 5, none⟩)) rfl
      have c8 := cell_in hl.hn.n (o := 8) (u := vr') rfl
      rw [hvr] at c8
      have cr0 := cell_in hc1 hc20.1
      have cr1 : wr.cell? ⟨gr, o' + 1, none⟩ = some (.func (.func 22) #[] #[.pointer (some ⟨X.bK, 0, none⟩), .pointer (some ⟨X.bL, 0, none⟩), .pointer (some ⟨X.bF, 0, none⟩)]) := cell_in hc1 hc20.2
      have zr : ∀ j, wr.frozen? ⟨gr, j, none⟩ = false := fun j => free_in hc1
      have lN : X.bN < wr.heap.size := lt_of hl.hn.n
      have lg : gr < wr.heap.size := lt_of hc1
      have lQ : bQ < wr.heap.size := lt_of hl.hq
      have gN := hl.rd.gN
      have hNg : X.bN ≠ gr := fun e => gN e.symm
      have HCU : Hid (wr.heap[gr]? = some (.cells cur 96 (0, 0)) ∧ (∀ j (hj : j < (it :: post).length), cur[o + 2 * pre.length + 2 * j]? = some (.pointer (some ⟨(it :: post)[j].pb, 0, none⟩)) ∧ cur[o + 2 * pre.length + 2 * j + 1]? = some (hval X.bK X.bL X.bF))) := ⟨hc1, hc2⟩
      have HNM : Hid (o + 2 * pre.length = o' ∧ cap - pre.length = cap' ∧ (it :: post).length = n1) := ⟨ho', hcap', hn1⟩
      have HL : Hid (Lp X gr o cap bQ its taken k vlog logs w gk u3 wr pre (it :: post) errs vlog' vr') := hl
      have hgq : gr ≠ bQ := fun e => by have := HBQ.out.2.2.2.2.2.2.1; omega
      have hNq : X.bN ≠ bQ := fun e => by have := HBQ.out.2.2.1; omega
      clear hc1 hc2 hc20 hl hvr ho' hcap' hn1
      obtain ⟨WA, hWA⟩ : ∃ W, W = wr.alloc (.cells #[.pointer (some ⟨it.pb, 0, none⟩), .func (.func 22) #[] #[.pointer (some ⟨X.bK, 0, none⟩), .pointer (some ⟨X.bL, 0, none⟩), .pointer (some ⟨X.bF, 0, none⟩)]] 96) := ⟨_, rfl⟩
      obtain ⟨bm, hbm⟩ : ∃ D, wr.heap.size = D := ⟨_, rfl⟩
      have hsA : Stay (fun _ => False) wr WA := by rw [hWA]; exact Stay.alloc _ _ _
      have hmA : WA.heap[bm]? = some (.cells #[.pointer (some ⟨it.pb, 0, none⟩), hval X.bK X.bL X.bF] 96 (0, 0)) := by rw [hWA, ← hbm]; exact heap_alloc_new wr _
      have crA : WA.heap[gr]? = some (.cells cur 96 (0, 0)) := hsA.at_ HCU.out.1 (fun e => e)
      have hclr := clear_one 0 gr o' cap' _ _ WA ((hsA.cell (a := ⟨gr, o', none⟩) lg (fun e => e)).trans cr0) ((hsA.cell (a := ⟨gr, o' + 1, none⟩) lg (fun e => e)).trans cr1) (free_in crA) (free_in crA)
      have cqA := cell_in (hsA.at_ HL.out.hq (fun e => e)) (o := 0) (u := .pointer (some ⟨X.bN, 5, none⟩)) rfl
      have c8A : WA.cell? ⟨X.bN, 8, none⟩ = some (.slice (some ⟨gr, o', none⟩) n1 cap') := (hsA.cell (a := ⟨X.bN, 8, none⟩) lN (fun e => e)).trans c8
      have HWA : Hid (wr.alloc (.cells #[.pointer (some ⟨it.pb, 0, none⟩), .func (.func 22) #[] #[.pointer (some ⟨X.bK, 0, none⟩), .pointer (some ⟨X.bL, 0, none⟩), .pointer (some ⟨X.bF, 0, none⟩)]] 96) = WA ∧ wr.heap.size = bm) := ⟨hWA.symm, hbm⟩
      have HSA : Hid (Stay (fun _ => False) wr WA ∧ WA.heap[bm]? = some (.cells #[.pointer (some ⟨it.pb, 0, none⟩), hval X.bK X.bL X.bF] 96 (0, 0)) ∧ WA.heap[gr]? = some (.cells cur 96 (0, 0))) := ⟨hsA, hmA, crA⟩
      clear hWA hbm hsA hmA crA
      go_upto_region 10 with (fail)
      rw [HWA.out.1, HWA.out.2]
      clear cq c8 cr0 cr1 zr lN lg lQ
      go_upto_region 11 with (fail)
      obtain ⟨WB, hWB⟩ : ∃ W, W = (WA.setCell ⟨gr, o', none⟩ (.pointer none)).setCell ⟨gr, o' + 1, none⟩ .nilFunc := ⟨_, rfl⟩
      have hsB : Stay (fun b => b = gr) WA WB := by rw [hWB]; exact (Stay.set (S := fun b => b = gr) _ _ _ _ rfl).trans (Stay.set _ _ _ _ rfl)
      have crB : WB.heap[gr]? = some (.cells ((cur.setIfInBounds o' (.pointer none)).setIfInBounds (o' + 1) .nilFunc) 96 (0, 0)) := by
        rw [hWB]
        exact heap_setCell_same _ gr (o' + 1) _ 96 _ (heap_setCell_same WA gr o' cur 96 _ HSA.out.2.2)
      have hl := HL.out
      have hnB : Hn X 1 taken vr' true (k + pre.length) vlog' (logs ++ pre.map (fun it => Value.string it.s)) WB :=
        (hl.hn.idle HSA.out.1).stay hsB (fun b hb e => by have := hl.rd.gB; omega) (fun e => hl.rd.gK e.symm) (fun e => hl.rd.gL e.symm) (fun e => hl.rd.gF e.symm) (fun g hg e => hl.vg (by rw [hg, e])) (fun e => hl.rd.gM e.symm) (fun e => hl.rd.gN e.symm)
      have hqB : WB.heap[bQ]? = some (.cells #[.pointer (some ⟨X.bN, 5, none⟩)] 131 (0, 0)) := hsB.at_ (HSA.out.1.at_ hl.hq (fun e => e)) (fun e => hgq e.symm)
      rw [← hWB]
      obtain ⟨m, hm⟩ : ∃ x, n1 = x + 1 := ⟨n1 - 1, by omega⟩
      obtain ⟨c1, hc1⟩ : ∃ x, cap' = x + 1 := ⟨cap' - 1, by omega⟩
      have HSS : Hid ((fun w' : World => w'.cell? ⟨bQ, 0, none⟩ = some (.pointer (some ⟨X.bN, 5, none⟩)) ∧ w'.cell? ⟨X.bN, 8, none⟩ = some (.slice (some ⟨gr, o', none⟩) n1 cap') ∧ w'.frozen? ⟨X.bN, 8, none⟩ = false) WB.drew) :=
        ⟨cell_in hqB (o := 0) rfl, by have h9 := cell_in hnB.n (o := 8) (u := vr') rfl; rw [HVR.out, HNM.out.1, HNM.out.2.1, HNM.out.2.2] at h9; exact h9, free_in hnB.n⟩
      have HNB : Hid (Hn X 1 taken vr' true (k + pre.length) vlog' (logs ++ pre.map (fun it => Value.string it.s)) WB ∧ WB.heap[bQ]? = some (.cells #[.pointer (some ⟨X.bN, 5, none⟩)] 131 (0, 0)) ∧ WB.heap[gr]? = some (.cells ((cur.setIfInBounds o' (.pointer none)).setIfInBounds (o' + 1) .nilFunc) 96 (0, 0)) ∧ Stay (fun b => b = gr) WA WB) := ⟨hnB, hqB, crB, hsB⟩
      have HMC : Hid (n1 = m + 1 ∧ cap' = c1 + 1) := ⟨hm, hc1⟩
      have e1 : ((n1 : Int) - 1) = (m : Int) := by omega
      have e2 : ((cap' : Int) - 1) = (c1 : Int) := by omega
      have e3 : n1 - 1 = m := by omega
      have e4 : cap' - 1 = c1 := by omega
      have e5 : (1 : Int) ≤ (n1 : Int) := by omega
      have e6 : (n1 : Int) ≤ (cap' : Int) := by omega
      have c8B : WB.cell? ⟨X.bN, 8, none⟩ = some (.slice (some ⟨gr, o', none⟩) n1 cap') := HSS.out.2.1
      have z8B : WB.frozen? ⟨X.bN, 8, none⟩ = false := HSS.out.2.2
      obtain ⟨oo, hoo, hoo2⟩ : ∃ oo : Nat, (if cap' = 1 then some (⟨gr, o', none⟩ : Addr) else some ⟨gr, o' + 2, none⟩) = some ⟨gr, oo, none⟩ ∧ (cap' ≠ 1 → oo = o' + 2) := by
        by_cases hc : cap' = 1
        · exact ⟨o', by rw [if_pos hc], fun h => absurd hc h⟩
        · exact ⟨o' + 2, by rw [if_neg hc], fun _ => rfl⟩
      have HOO : Hid (cap' ≠ 1 → oo = o' + 2) := hoo2
      clear hoo2
      clear hWB hsB crB hl hnB hqB hm hc1 hclr cqA c8A
      refine wp_region_noPanic ?_
      refine wp_region_L (fun w' => w'.cell? ⟨bQ, 0, none⟩ = some (.pointer (some ⟨X.bN, 5, none⟩)) ∧ w'.cell? ⟨X.bN, 8, none⟩ = some (.slice (some ⟨gr, o', none⟩) n1 cap') ∧ w'.frozen? ⟨X.bN, 8, none⟩ = false) 8 9 (by kernel_rfl) (by kernel_rfl) ?_
      refine wpU_take (i := 0) (v := ?_) rfl (by kernel_rfl) (by kernel_rfl) (by kernel_rfl) (by kernel_rfl) (fun _ _ _ h => h) (by rfl) ?_ HSS.out ?_
      rotate_left
      · (intro wS hwS; (try dsimp only at hwS); go_simp; try with_reducible rfl)
      simp only [Act.put, List.getElem_toArray, List.getElem_cons_zero, List.getElem_cons_succ, List.setIfInBounds_toArray, List.set_cons_zero, List.set_cons_succ]
      refine wpU_take (i := 1) (v := ?_) rfl (by kernel_rfl) (by kernel_rfl) (by kernel_rfl) (by kernel_rfl) (fun _ _ _ h => h) (by rfl) ?_ HSS.out ?_
      rotate_left
      · (intro wS hwS; (try dsimp only at hwS); go_simp; try with_reducible rfl)
      simp only [Act.put, List.getElem_toArray, List.getElem_cons_zero, List.getElem_cons_succ, List.setIfInBounds_toArray, List.set_cons_zero, List.set_cons_succ]
      refine wpU_take (i := 2) (v := ?_) rfl (by kernel_rfl) (by kernel_rfl) (by kernel_rfl) (by kernel_rfl) (fun _ _ _ h => h) (by rfl) ?_ HSS.out ?_
      rotate_left
      · (intro wS hwS; (try dsimp only at hwS); go_simp; try with_reducible rfl)
      simp only [Act.put, List.getElem_toArray, List.getElem_cons_zero, List.getElem_cons_succ, List.setIfInBounds_toArray, List.set_cons_zero, List.set_cons_succ]
      refine wpU_take (i := 3) (v := ?_) rfl (by kernel_rfl) (by kernel_rfl) (by kernel_rfl) (by kernel_rfl) (fun _ _ _ h => h) (by rfl) ?_ HSS.out ?_
      rotate_left
      · (intro wS hwS; (try dsimp only at hwS); go_simp; try with_reducible rfl)
      simp only [Act.put, List.getElem_toArray, List.getElem_cons_zero, List.getElem_cons_succ, List.setIfInBounds_toArray, List.set_cons_zero, List.set_cons_succ]
      refine wpU_take (i := 4) (v := ?_) rfl (by kernel_rfl) (by kernel_rfl) (by kernel_rfl) (by kernel_rfl) (fun _ _ _ h => h) (by rfl) ?_ HSS.out ?_
      rotate_left
      · (intro wS hwS; (try dsimp only at hwS); go_simp; try with_reducible rfl)
      simp only [Act.put, List.getElem_toArray, List.getElem_cons_zero, List.getElem_cons_succ, List.setIfInBounds_toArray, List.set_cons_zero, List.set_cons_succ]
      refine wpU_take (i := 5) (v := ?_) rfl (by kernel_rfl) (by kernel_rfl) (by kernel_rfl) (by kernel_rfl) (fun _ _ _ h => h) (by rfl) ?_ HSS.out ?_
      rotate_left
      · (intro wS hwS; (try dsimp only at hwS); go_simp; try with_reducible rfl)
      simp only [Act.put, List.getElem_toArray, List.getElem_cons_zero, List.getElem_cons_succ, List.setIfInBounds_toArray, List.set_cons_zero, List.set_cons_succ]
      refine wpU_take (i := 6) (v := ?_) rfl (by kernel_rfl) (by kernel_rfl) (by kernel_rfl) (by kernel_rfl) (fun _ _ _ h => h) (by rfl) ?_ HSS.out ?_
      rotate_left
      · (intro wS hwS; (try dsimp only at hwS); go_simp; try with_reducible rfl)
      simp only [Act.put, List.getElem_toArray, List.getElem_cons_zero, List.getElem_cons_succ, List.setIfInBounds_toArray, List.set_cons_zero, List.set_cons_succ]
      refine wpU_take (i := 7) (v := ?_) rfl (by kernel_rfl) (by kernel_rfl) (by kernel_rfl) (by kernel_rfl) (fun _ _ _ h => h) (by rfl) ?_ HSS.out ?_
      rotate_left
      · (intro wS hwS; (try dsimp only at hwS); go_simp; try with_reducible rfl)
      simp only [Act.put, List.getElem_toArray, List.getElem_cons_zero, List.getElem_cons_succ, List.setIfInBounds_toArray, List.set_cons_zero, List.set_cons_succ]
      refine wpL_one (i := 8) (by kernel_rfl) rfl (fun K hK => ?_)
      simp only [List.getElem_toArray, List.getElem_cons_zero, List.getElem_cons_succ]
      go_simp
      refine hK.out _ _ (fun h => absurd rfl h) ?_
      clear hK K
      refine wpL_done (by kernel_rfl) ?_ _
      refine NoPanic.normal ?_
      obtain ⟨WC, hWC⟩ : ∃ W, W = (WB.setCell ⟨X.bN, 8, none⟩ (.slice (some ⟨gr, oo, none⟩) m c1)).drew := ⟨_, rfl⟩
      have hsC : Stay (fun b => b = X.bN) WB WC := by rw [hWC]; exact (Stay.set (S := fun b => b = X.bN) _ _ _ _ rfl).drew
      have hnC : Hn X 1 taken (.slice (some ⟨gr, oo, none⟩) m c1) true (k + pre.length) vlog' (logs ++ pre.map (fun it => Value.string it.s)) WC := by
        rw [hWC]
        exact (HNB.out.1.ready O _).idle (Stay.refl _ _).drew
      rw [← hWC]
      have hl := HL.out
      have c7C := cell_in hnC.n (o := 7) (u := .nilFunc) rfl
      have c5C := cell_in hnC.n (o := 5) (u := .pointer (some ⟨X.bM, 4, none⟩)) rfl
      have hqC := hsC.at_ HNB.out.2.1 (fun e => hNq e.symm)
      have cqC := cell_in hqC (o := 0) (u := .pointer (some ⟨X.bN, 5, none⟩)) rfl
      have cMC := cell_in hnC.m (o := 4) (u := .int .i32 1) rfl
      have zMC := free_in hnC.m (o := 4)
      obtain ⟨WD, hWD⟩ : ∃ W, W = WC.setCell ⟨X.bM, 4, none⟩ (.int .i32 0) := ⟨_, rfl⟩
      have HUL : Hid (Calls Ybaf.prog 19 #[.pointer (some ⟨X.bM, 4, none⟩)] WC fun e w' => e = .returned (.tuple #[]) ∧ w' = WD) := by
        have := unlock_held Ybaf.muLib ⟨X.bM, 4, none⟩ WC cMC zMC
        rw [← hWD] at this
        exact this
      have hsD1 : Stay (fun b => b = X.bM) WC WD := by rw [hWD]; exact Stay.set _ _ _ _ rfl
      have hnD := hnC.lock O 0
      rw [← hWD] at hnD
      have hsD : Stay (fun b => b = gr ∨ b = X.bN ∨ b = X.bM) wr WD :=
        (((HSA.out.1.mono (fun _ _ e => e.elim)).trans' HNB.out.2.2.2 (fun b _ e => .inl e)).trans' hsC (fun b _ e => .inr (.inl e))).trans' hsD1 (fun b _ e => .inr (.inr e))
      obtain ⟨x1, x2, x3, x4, x5, x6, x7, x8, x9⟩ := HBQ.out
      have hwQ : bQ < wr.heap.size := lt_of hl.hq
      have hbm : wr.heap.size = bm := HWA.out.2
      have hqD := hsD1.at_ hqC (fun e => by omega)
      have hmD : WD.heap[bm]? = some (.cells #[.pointer (some ⟨it.pb, 0, none⟩), hval X.bK X.bL X.bF] 96 (0, 0)) :=
        hsD1.at_ (hsC.at_ (HNB.out.2.2.2.at_ HSA.out.2.1 (fun e => by omega)) (fun e => by omega)) (fun e => by omega)
      have hgD : WD.heap[gr]? = some (.cells ((cur.setIfInBounds o' (.pointer none)).setIfInBounds (o' + 1) .nilFunc) 96 (0, 0)) :=
        hsD1.at_ (hsC.at_ HNB.out.2.2.1 gN) hl.rd.gM
      have hit : it ∈ it :: post := by simp
      have hpD : WD.heap[it.pb]? = some (.cells (pendArr it.id it.s it.to it.seq) 75 (0, 0)) :=
        hsD.at_ (hl.rd.pend it hit) (by rintro (e | e | e); exact hl.rd.pg it hit e; exact hl.rd.pN it hit e; exact hl.rd.pM it hit e)
      have hkk : k + pre.length ≤ 900 := by have h2 := congrArg List.length hl.cut; simp at h2; omega
      have HR2 : Hid (Calls Ybaf.prog 50 #[.pointer (some ⟨bQ, 0, none⟩), .pointer (some ⟨bm, 0, none⟩)] WD fun e w' =>
          (∃ vlog2, Hn X 1 taken (.slice (some ⟨gr, oo, none⟩) m c1) true (k + pre.length + 1) vlog2 ((logs ++ pre.map (fun it => Value.string it.s)) ++ [.string it.s]) w' ∧ NewRow WD vlog' vlog2) ∧ Stay (X.T vlog') WD w' ∧
          ∃ v, e = .returned v ∧ ((X.fs.getD (k + pre.length) false = false ∧ v = .nilIface) ∨ (X.fs.getD (k + pre.length) false = true ∧ ∃ a, v = .iface 136 (.pointer (some a))))) :=
        (run2_any F X O bQ bm it.pb taken _ true (k + pre.length) vlog' _ it.id it.seq it.s it.to WD (by rw [hsD.tape, hl.st.tape]; exact x8) hnD hkk hqD hmD hpD
          (by rintro (e | e | e); exact hl.rd.pK it hit e; exact hl.rd.pL it hit e; exact hl.vp it hit e)
          (by rintro (e | e | e); omega; omega; exact hl.vq e)
          (by rintro (e | e | e); omega; omega; have h2 := (hl.hn.hs.row.lt _ e).2; omega)).mono (by
            rintro e w' ⟨h1, h2, ⟨h3, rfl⟩ | ⟨h3, a, rfl⟩⟩
            · exact ⟨h1, h2, _, rfl, .inl ⟨h3, rfl⟩⟩
            · exact ⟨h1, h2, _, rfl, .inr ⟨h3, a, rfl⟩⟩)
      have HSD : Hid (Stay (fun b => b = gr ∨ b = X.bN ∨ b = X.bM) wr WD ∧ WD.heap[gr]? = some (.cells ((cur.setIfInBounds o' (.pointer none)).setIfInBounds (o' + 1) .nilFunc) 96 (0, 0))) := ⟨hsD, hgD⟩
      have cqD := cell_in hqD (o := 0) (u := .pointer (some ⟨X.bN, 5, none⟩)) rfl
      have HCR : Hid (∀ j (hj : j < post.length), ((cur.setIfInBounds o' (.pointer none)).setIfInBounds (o' + 1) .nilFunc)[o + 2 * (pre.length + 1) + 2 * j]? = some (.pointer (some ⟨post[j].pb, 0, none⟩)) ∧ ((cur.setIfInBounds o' (.pointer none)).setIfInBounds (o' + 1) .nilFunc)[o + 2 * (pre.length + 1) + 2 * j + 1]? = some (hval X.bK X.bL X.bF)) := fun j hj => by
        have h1 := HCU.out.2 (j + 1) (by simp; omega)
        have h2 := HNM.out.1
        have e1 : o + 2 * pre.length + 2 * (j + 1) = o + 2 * (pre.length + 1) + 2 * j := by omega
        rw [e1] at h1
        simp only [List.getElem_cons_succ] at h1
        rw [Array.getElem?_setIfInBounds_ne (by omega), Array.getElem?_setIfInBounds_ne (by omega), Array.getElem?_setIfInBounds_ne (by omega), Array.getElem?_setIfInBounds_ne (by omega)]
        exact h1
      have HVR2 : Hid (∃ o2, (Value.slice (some ⟨gr, oo, none⟩) m c1) = .slice (some ⟨gr, o2, none⟩) post.length (cap - (pre.length + 1)) ∧ (post ≠ [] → o2 = o + 2 * (pre.length + 1))) := by
        obtain ⟨y1, y2, y3⟩ := HNM.out
        obtain ⟨y4, y5⟩ := HMC.out
        simp only [List.length_cons] at y3
        have z1 : m = post.length := by omega
        have z2 : c1 = cap - (pre.length + 1) := by omega
        refine ⟨oo, by rw [z1, z2], fun hp => ?_⟩
        have hp0 : 0 < post.length := List.length_pos_iff.2 hp
        rw [HOO.out (by omega)]
        omega
      clear hWC hsC hnC hl hqC cMC zMC hWD hsD1 hnD hsD x1 x2 x3 x4 x5 x6 x7 x8 x9 hwQ hbm hqD hmD hgD hpD hit hoo c8B z8B
      have hnf : ∀ W : World, (binOp .neq 81 .nilFunc .nilFunc).run Ybaf.prog W = .ok (.bool false) W := fun W => by kernel_rfl
      go_upto_region 17 with (go_at_call 19; refine HUL.out.mono ?_; rintro _ wx ⟨rfl, hwx⟩; rw [hwx]; clear hwx wx)
      go_upto_region 18 with (go_at_call 50; refine HR2.out.mono ?_; rintro _ w5 ⟨⟨vlog2, hn5', nr5⟩, hs5, v5, rfl, hv5⟩; have H5 : Hid (Hn X 1 taken (.slice (some ⟨gr, oo, none⟩) m c1) true (k + pre.length + 1) vlog2 ((logs ++ pre.map (fun it => Value.string it.s)) ++ [.string it.s]) w5 ∧ NewRow WD vlog' vlog2 ∧ Stay (X.T vlog') WD w5) := ⟨hn5', nr5, hs5⟩; have HV5 : Hid ((X.fs.getD (k + pre.length) false = false ∧ v5 = .nilIface) ∨ (X.fs.getD (k + pre.length) false = true ∧ ∃ a, v5 = .iface 136 (.pointer (some a)))) := hv5; clear hn5' nr5 hs5 hv5)
      have hl := HL.out
      obtain ⟨x1, x2, x3, x4, x5, x6, x7, x8, x9⟩ := HBQ.out
      have hwQ : bQ < wr.heap.size := lt_of hl.hq
      have hgk : post.length < gk := by rw [hl.num]; simp
      have her5 : w5.ownsRow (bQ + 1) 39 1 u3 errs.length errs := by
        have hveb : ∀ g, u3.ownBlock = some g → bQ + 1 ≤ g ∧ g < wr.heap.size := fun g hg => hl.er.lt g hg
        refine H5.out.2.2.row (HSD.out.1.row hl.er (fun g hg e => by have := hveb g hg; omega)) (fun g hg e => ?_)
        rcases e with (e | e | e) | e
        · have := hveb g hg; omega
        · have := hveb g hg; omega
        · exact hl.ve g hg e
        · have := hveb g hg; omega
      have hbB : bQ + 1 ≤ w5.heap.size := Nat.le_trans hwQ (Nat.le_trans HSD.out.1.size H5.out.2.2.size)
      have hel : errs.length ≤ 500 := by have h1 := hl.el; have h2 := congrArg List.length hl.cut; simp at h2; omega
      rcases HV5.out with ⟨hb, rfl⟩ | ⟨hb, a, rfl⟩
      · have HST : Hid (Lp X gr o cap bQ its taken k vlog logs w post.length u3 w5 (pre ++ [it]) post errs vlog2 (.slice (some ⟨gr, oo, none⟩) m c1)) := by
          refine Lp.step O hl x1 x2 x3 x4 x5 x6 x7 x9 HSD.out.1 HSD.out.2 HCR.out H5.out.2.2 H5.out.1 H5.out.2.1 HVR2.out (Stay.refl _ _) her5 hl.es (Nat.le_succ_of_le hl.el) ?_ (.inl rfl)
          rcases hl.sd with ⟨s1, s2⟩ | ⟨s1, j, s2, s3⟩
          · refine .inl ⟨s1, fun j hj => ?_⟩
            by_cases hjp : j < pre.length
            · exact s2 j hjp
            · obtain rfl : j = pre.length := by omega
              exact hb
          · exact .inr ⟨s1, j, by omega, s3⟩
        clear hl x1 x2 x3 x4 x5 x6 x7 x8 x9 hwQ her5 hbB hel hb
        go_wp2
        go_roundg post.length
        case measure => exact hgk
        case rel => exact ⟨_, _, _, _, _, HST.out⟩
      · obtain ⟨i0, hi0, hz0, hz1, hz2⟩ := info_parts Ybaf.info39
        have HI : Hid (Ybaf.prog.info? 39 = some i0 ∧ i0.zero = some .nilIface ∧ i0.size = 1 ∧ i0.bytes = 16) := ⟨hi0, hz0, hz1, hz2⟩
        have HER : Hid (w5.ownsRow (bQ + 1) 39 1 u3 errs.length errs) := her5
        have HST : Hid (∀ (w6 : World) (gg cp : Nat), w6.ownsRow (bQ + 1) 39 1 (.slice (some ⟨gg, 0, none⟩) (errs.length + 1) cp) (errs.length + 1) (errs ++ [.iface 136 (.pointer (some a))]) → Stay (fun b => u3.ownBlock = some b) w5 w6 → (u3.ownBlock = some gg ∨ gg = w5.heap.size + 1) → Lp X gr o cap bQ its taken k vlog logs w post.length (.slice (some ⟨gg, 0, none⟩) (errs.length + 1) cp) w6 (pre ++ [it]) post (errs ++ [.iface 136 (.pointer (some a))]) vlog2 (.slice (some ⟨gr, oo, none⟩) m c1)) := fun w6 gg cp h1 h2 h3 => by
          have hlen : (errs ++ [Value.iface 136 (.pointer (some a))]).length = errs.length + 1 := by simp
          refine Lp.step O hl x1 x2 x3 x4 x5 x6 x7 x9 HSD.out.1 HSD.out.2 HCR.out H5.out.2.2 H5.out.1 H5.out.2.1 HVR2.out h2 (by rw [hlen]; exact h1) ?_ (by rw [hlen]; have := hl.el; omega) (.inr ⟨by rw [hlen]; omega, pre.length, by omega, hb⟩) ?_
          · intro v hv
            rcases List.mem_append.1 hv with hv | hv
            · exact hl.es v hv
            · simp at hv
              exact ⟨a, hv⟩
          · rcases h3 with e | e
            · exact .inl (by rw [e]; rfl)
            · exact .inr ⟨gg, by omega, rfl⟩
        clear hl x1 x2 x3 x4 x5 x6 x7 x8 x9 hwQ her5 hb hi0 hz0 hz1 hz2
        go_wp2_with (first | (at_builtin; refine wpList_append_lies _ (by rfl) _ _ _ (by rfl) (bQ + 1) 39 i0 _ 1 16 Ybaf.underlying132 HI.out.1 HI.out.2.1 HI.out.2.2.1 HI.out.2.2.2 rfl (by omega) u3 errs.length errs (by rfl) (HER.out.alloc _) ⟨w5.heap.size, 0, none⟩ 1 1 [.iface 136 (.pointer (some a))] (by rfl) (by rfl) (World.news_of_block (cs := #[.iface 136 (.pointer (some a))]) (t := 39) (fr := (0, 0)) (heap_alloc_new w5 _)) (by simp [Value.oneCell']) (by omega) (bound_max (by omega)) (by omega) (by rw [World.size_alloc]; omega) (w5.heap.size + 1) (by simp) ?_; intro gg cp w6 hown hgrow hat hlt9; have HP : Hid (Lp X gr o cap bQ its taken k vlog logs w post.length (.slice (some ⟨gg, 0, none⟩) (errs.length + 1) cp) w6 (pre ++ [it]) post (errs ++ [.iface 136 (.pointer (some a))]) vlog2 (.slice (some ⟨gr, oo, none⟩) m c1)) := HST.out w6 gg cp hown ((Stay.alloc _ w5 _).trans (Stay.grown hgrow (fun g e => e))) hat; clear hown hgrow hat hlt9))
        go_roundg post.length
        case measure => exact hgk
        case rel => exact ⟨_, _, _, _, _, HP.out⟩
end Go.Proofs.YbulkcoecFmt
