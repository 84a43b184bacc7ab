import Derived.Test.YbulkcoguDoorState
import Derived.Test.YbulkcoguDoorPlain
import Derived.WalkSmall
namespace Go.Proofs.YbulkcoguDoor
open Go.RowKit Go.Deep
set_option linter.unusedVariables false
set_option linter.unusedSimpArgs false

/-- What turns while members are placed and taken back. -/
structure St where
  taken : Nat
  live : Nat
  wt : Nat → Int
  lf : Nat → Int
  pl : List Nat
  mks : List Nat
  ems : List Nat
  tr : List Nat
  rc : Bool
  vp : Value
  vm : Value
  ve : Value
  vc : Value
  vs : Value
  ch : Bool
  bC : Nat
  kc : Nat
  bT : Nat
  bV : Nat
  sv : Nat
  pc : Nat
  col : Nat → Nat
  fo : Nat → Option (Array Value × TypeId)

def St.kdyn (st : St) : Nat → Option Value
  | 17 => some st.vp
  | 20 => some (.bool st.rc)
  | 21 => some st.vm
  | 22 => some st.vc
  | 23 => some (.int .i64 (st.tr.length : Nat))
  | 24 => some st.vs
  | 25 => some (.int .i64 (st.pc : Nat))
  | 38 => some st.ve
  | _ => none

structure Core (L : Lay) (st : St) (w : World) : Prop where
  fix : Fix L w
  tk : w.cell? ⟨L.S, 0, none⟩ = some (.int .i64 (st.taken : Nat))
  lv : w.cell? ⟨L.bB, 2 * L.n, none⟩ = some (.int .u64 (st.live : Nat))
  wt : ∀ u, u < L.n → w.cell? ⟨L.bW, u, none⟩ = some (.int .i64 (st.wt u))
  lf : ∀ g, g < L.s → w.cell? ⟨L.bG, 4 * g + 2, none⟩ = some (.int .i64 (st.lf g))
  kd : ∀ o v, st.kdyn o = some v → w.cell? ⟨L.K, o, none⟩ = some v

structure Side (L : Lay) (st : St) (w : World) : Prop where
  rp : w.ownsRow L.w1.heap.size 3 1 st.vp st.pl.length (st.pl.map encI)
  rm : w.ownsRow L.w1.heap.size 3 1 st.vm st.mks.length (st.mks.map encI)
  re : w.ownsRow L.w1.heap.size 3 1 st.ve st.ems.length (st.ems.map encI)
  tc : st.ch = true → st.vc = .slice (some ⟨st.bC, 0, none⟩) 1 st.kc ∧ 1 ≤ st.kc ∧ st.bC < w.heap.size ∧ w.cell? ⟨st.bC, 0, none⟩ = some (.slice (some ⟨st.bT, 0, none⟩) 4096 4096)
  t0 : st.ch = false → st.vc = .slice none 0 0 ∧ st.tr = []
  tb : st.ch = true → st.bT < w.heap.size ∧ ∃ cur, w.heap[st.bT]? = some (.cells cur 72 (0, 0)) ∧ cur.size = 8192 ∧ ∀ i (hi : i < st.tr.length), cur[2 * i]? = some (.int .i64 (2 * L.n : Nat)) ∧ cur[2 * i + 1]? = some (.int .u64 (st.tr[i] : Nat))
  sv : st.rc = true → st.bV < w.heap.size ∧ st.vs = .slice (some ⟨st.bV, 0, none⟩) (2 * L.n + 1) (2 * L.n + 1) ∧ ∃ cur, w.heap[st.bV]? = some (.cells cur 3 (0, 0)) ∧ cur.size = 2 * L.n + 1 ∧ cur[2 * L.n]? = some (.int .i64 (st.sv : Nat))
  cp : ∀ g, st.vp.ownBlock = some g → st.col g = 1
  cm : ∀ g, st.vm.ownBlock = some g → st.col g = 2
  ce : ∀ g, st.ve.ownBlock = some g → st.col g = 3
  cC : st.ch = true → st.col st.bC = 4 ∧ L.w1.heap.size ≤ st.bC
  cT : st.ch = true → st.col st.bT = 5 ∧ L.w1.heap.size ≤ st.bT
  cV : st.rc = true → st.col st.bV = 6 ∧ (L.w1.heap.size ≤ st.bV ∨ st.bV = L.xV)
  fo : ∀ b o, st.fo b = some o → w.heap[b]? = some (.cells o.1 o.2 (0, 0))
  cF : ∀ b o, st.fo b = some o → st.col b = 7 ∧ L.w1.heap.size ≤ b

structure Sta (L : Lay) (st : St) (w : World) : Prop where
  core : Core L st w
  rest : Side L st w

theorem co {w : World} {b o b' o' : Nat} {v : Value} (h : b ≠ b' ∨ o ≠ o') : (w.setCell ⟨b, o, none⟩ v).cell? ⟨b', o', none⟩ = w.cell? ⟨b', o', none⟩ :=
  World.cell?_setCell_other _ _ _ _ (by intro he; cases he; omega)

theorem row_kept {w w' : World} {base : Nat} {e : TypeId} {size : Nat} {v : Value} {n : Nat} {xs : List Value} (h : w.ownsRow base e size v n xs) (hb : ∀ g, v.ownBlock = some g → base ≤ g → g < w.heap.size → w'.heap[g]? = w.heap[g]?) : w'.ownsRow base e size v n xs := by
  refine ⟨h.1, ?_⟩
  rcases h.2 with hn | ⟨g, cap, cur, rfl, hbg, hg, rest⟩
  · exact .inl hn
  · refine .inr ⟨g, cap, cur, rfl, hbg, (hb g rfl hbg ?_).trans hg, rest⟩
    rcases Nat.lt_or_ge g w.heap.size with hlt | hge
    · exact hlt
    · rw [Array.getElem?_eq_none hge] at hg; cases hg

/-- The rows' side stands wherever their blocks stand. -/
theorem Side.far {L : Lay} {st : St} {w w' : World} (h : Side L st w) (hs : w.heap.size ≤ w'.heap.size) (hb : ∀ b, b < w.heap.size → (L.w1.heap.size ≤ b ∨ b = L.xV) → w'.heap[b]? = w.heap[b]?) : Side L st w' where
  rp := row_kept h.rp fun g _ h1 h2 => hb g h2 (.inl h1)
  rm := row_kept h.rm fun g _ h1 h2 => hb g h2 (.inl h1)
  re := row_kept h.re fun g _ h1 h2 => hb g h2 (.inl h1)
  tc := fun hc => by
    obtain ⟨h1, h2, h3, h4⟩ := h.tc hc
    exact ⟨h1, h2, Nat.lt_of_lt_of_le h3 hs, (World.cell?_of_block (w := w) (hb _ h3 (.inl (h.cC hc).2))).trans h4⟩
  t0 := h.t0
  tb := fun hc => by
    obtain ⟨h1, cur, h2, h3⟩ := h.tb hc
    exact ⟨Nat.lt_of_lt_of_le h1 hs, cur, (hb _ h1 (.inl (h.cT hc).2)).trans h2, h3⟩
  sv := fun hc => by
    obtain ⟨h1, h2, cur, h3, h4⟩ := h.sv hc
    exact ⟨Nat.lt_of_lt_of_le h1 hs, h2, cur, (hb _ h1 (h.cV hc).2).trans h3, h4⟩
  cp := h.cp
  cm := h.cm
  ce := h.ce
  cC := h.cC
  cT := h.cT
  cV := h.cV
  fo := fun b o hb' => (hb b (Array.getElem?_eq_some_iff.1 (h.fo b o hb')).1 (.inl (h.cF b o hb').2)).trans (h.fo b o hb')
  cF := h.cF

/-- The closure's side stands wherever its five blocks stand. -/
theorem Core.far {L : Lay} {st : St} {w w' : World} (h : Core L st w) (G : Good L) (hf : Fix L w') (hb : ∀ b, b = L.K ∨ b = L.S ∨ b = L.bB ∨ b = L.bW ∨ b = L.bG → w'.heap[b]? = w.heap[b]?) : Core L st w' where
  fix := hf
  tk := (World.cell?_of_block (w := w) (hb _ (by simp))).trans h.tk
  lv := (World.cell?_of_block (w := w) (hb _ (by simp))).trans h.lv
  wt := fun u hu => (World.cell?_of_block (w := w) (hb _ (by simp))).trans (h.wt u hu)
  lf := fun u hu => (World.cell?_of_block (w := w) (hb _ (by simp))).trans (h.lf u hu)
  kd := fun o v hv => (World.cell?_of_block (w := w) (hb _ (by simp))).trans (h.kd o v hv)

/-- New blocks. -/
theorem Sta.below {L : Lay} {st : St} {w w' : World} (h : Sta L st w) (G : Good L) (hb : Below w.heap.size w w') : Sta L st w' := by
  have hz := h.core.fix.size
  have := G.Kl; have := G.Sl; have := G.Bl; have := G.Wl; have := G.Gl
  exact ⟨h.core.far G (h.core.fix.grown (row := none) ⟨hb.os, hb.tape, hb.output, hb.size, fun i hi _ => hb.block i hi⟩ (fun g e => by cases e)) (fun b hbb => hb.block b (by omega)), h.rest.far hb.size (fun b hl _ => hb.block b hl)⟩

theorem Sta.drewN {L : Lay} {st : St} {w : World} (h : Sta L st w) (n : Nat) : Sta L st (w.drewN n) :=
  ⟨⟨h.core.fix.drewN n, h.core.tk, h.core.lv, h.core.wt, h.core.lf, h.core.kd⟩, ⟨h.rest.rp, h.rest.rm, h.rest.re, h.rest.tc, h.rest.t0, h.rest.tb, h.rest.sv, h.rest.cp, h.rest.cm, h.rest.ce, h.rest.cC, h.rest.cT, h.rest.cV, h.rest.fo, h.rest.cF⟩⟩

/-- A store into one of the closure's five blocks leaves the rows' side. -/
theorem Side.spec {L : Lay} {st : St} {w : World} (h : Side L st w) (G : Good L) {b o : Nat} (hb : b = L.K ∨ b = L.S ∨ b = L.bB ∨ b = L.bW ∨ b = L.bG) (v : Value) : Side L st (w.setCell ⟨b, o, none⟩ v) := by
  have := G.Kl; have := G.Sl; have := G.Bl; have := G.Wl; have := G.Gl
  have := G.KV; have := G.SV; have := G.BV; have := G.WV; have := G.GV
  refine h.far (by simp) fun k hk hk2 => Below.heap_setCell _ _ _ _ ?_
  show k ≠ b
  omega

theorem Side.of {L : Lay} {st : St} {w : World} (h : Side L st w) (t l : Nat) (wt lf : Nat → Int) (pc : Nat) : Side L { st with taken := t, live := l, wt := wt, lf := lf, pc := pc } w :=
  ⟨h.rp, h.rm, h.re, h.tc, h.t0, h.tb, h.sv, h.cp, h.cm, h.ce, h.cC, h.cT, h.cV, h.fo, h.cF⟩

theorem Core.ofSv {L : Lay} {st : St} {w : World} (h : Core L st w) (t : Nat) : Core L { st with sv := t } w := ⟨h.fix, h.tk, h.lv, h.wt, h.lf, h.kd⟩

theorem Sta.setTaken {L : Lay} {st : St} {w : World} (h : Sta L st w) (G : Good L) (t : Nat) : Sta L { st with taken := t } (w.setCell ⟨L.S, 0, none⟩ (.int .i64 (t : Nat))) := by
  have := G.KS; have := G.SW; have := G.SG; have := G.BS
  exact ⟨⟨h.core.fix.setCell (.inr (by simp [Lay.Dyn])) _, World.cell?_setCell_same _ _ _ h.core.tk, (co (by omega)).trans h.core.lv, fun u hu => (co (by omega)).trans (h.core.wt u hu), fun u hu => (co (by omega)).trans (h.core.lf u hu), fun o v hv => (co (by omega)).trans (h.core.kd o v hv)⟩,
    (h.rest.spec G (by simp) _).of t st.live st.wt st.lf st.pc⟩

theorem Sta.setLive {L : Lay} {st : St} {w : World} (h : Sta L st w) (G : Good L) (t : Nat) : Sta L { st with live := t } (w.setCell ⟨L.bB, 2 * L.n, none⟩ (.int .u64 (t : Nat))) := by
  have := G.BK; have := G.BW; have := G.BG; have := G.BS
  exact ⟨⟨h.core.fix.setCell (.inr (by simp [Lay.Dyn])) _, (co (by omega)).trans h.core.tk, World.cell?_setCell_same _ _ _ h.core.lv, fun u hu => (co (by omega)).trans (h.core.wt u hu), fun u hu => (co (by omega)).trans (h.core.lf u hu), fun o v hv => (co (by omega)).trans (h.core.kd o v hv)⟩,
    (h.rest.spec G (by simp) _).of st.taken t st.wt st.lf st.pc⟩

theorem Sta.setWait {L : Lay} {st : St} {w : World} (h : Sta L st w) (G : Good L) (k : Nat) (hk : k < L.n) (x : Int) : Sta L { st with wt := put st.wt k x } (w.setCell ⟨L.bW, k, none⟩ (.int .i64 x)) := by
  have := G.BW; have := G.KW; have := G.SW; have := G.WG
  refine ⟨⟨h.core.fix.setCell (.inr (by simp [Lay.Dyn])) _, (co (by omega)).trans h.core.tk, (co (by omega)).trans h.core.lv, fun u hu => ?_, fun u hu => (co (by omega)).trans (h.core.lf u hu), fun o v hv => (co (by omega)).trans (h.core.kd o v hv)⟩,
    (h.rest.spec G (by simp) _).of st.taken st.live (put st.wt k x) st.lf st.pc⟩
  by_cases hu2 : u = k
  · subst hu2
    simp only [put, if_pos]
    exact World.cell?_setCell_same _ _ _ (h.core.wt u hu)
  · simp only [put, if_neg hu2]
    exact (co (by omega)).trans (h.core.wt u hu)

theorem Sta.setLeft {L : Lay} {st : St} {w : World} (h : Sta L st w) (G : Good L) (k : Nat) (hk : k < L.s) (x : Int) : Sta L { st with lf := put st.lf k x } (w.setCell ⟨L.bG, 4 * k + 2, none⟩ (.int .i64 x)) := by
  have := G.BG; have := G.KG; have := G.SG; have := G.WG
  refine ⟨⟨h.core.fix.setCell (.inr (by simp [Lay.Dyn])) _, (co (by omega)).trans h.core.tk, (co (by omega)).trans h.core.lv, fun u hu => (co (by omega)).trans (h.core.wt u hu), fun u hu => ?_, fun o v hv => (co (by omega)).trans (h.core.kd o v hv)⟩,
    (h.rest.spec G (by simp) _).of st.taken st.live st.wt (put st.lf k x) st.pc⟩
  by_cases hu2 : u = k
  · subst hu2
    simp only [put, if_pos]
    exact World.cell?_setCell_same _ _ _ (h.core.lf u hu)
  · simp only [put, if_neg hu2]
    exact (co (by omega)).trans (h.core.lf u hu)

/-- A store into a dynamic cell of the closure: the closure's side. -/
theorem Core.setK {L : Lay} {st st' : St} {w : World} (h : Core L st w) (G : Good L) {o : Nat} {v u : Value} (hd : L.Dyn L.K o) (hu : st.kdyn o = some u) (hv : st'.kdyn o = some v) (ho : ∀ o', o' ≠ o → st'.kdyn o' = st.kdyn o')
    (e1 : st'.taken = st.taken) (e2 : st'.live = st.live) (e3 : st'.wt = st.wt) (e4 : st'.lf = st.lf) : Core L st' (w.setCell ⟨L.K, o, none⟩ v) := by
  have := G.BK; have := G.KW; have := G.KS; have := G.KG
  refine ⟨h.fix.setCell (.inr hd) _, (co (by omega)).trans (e1 ▸ h.tk), (co (by omega)).trans (e2 ▸ h.lv), fun u hu => (co (by omega)).trans (e3 ▸ h.wt u hu), fun u hu => (co (by omega)).trans (e4 ▸ h.lf u hu), fun o' v' hv' => ?_⟩
  by_cases he : o' = o
  · subst he
    rw [hv] at hv'
    cases hv'
    exact World.cell?_setCell_same _ _ _ (h.kd _ _ hu)
  · exact (co (by omega)).trans (h.kd o' v' (by rw [← ho o' he]; exact hv'))

theorem kd_other {st st' : St} {o : Nat} (h17 : o = 17 ∨ st'.vp = st.vp) (h20 : o = 20 ∨ st'.rc = st.rc) (h21 : o = 21 ∨ st'.vm = st.vm) (h22 : o = 22 ∨ st'.vc = st.vc) (h23 : o = 23 ∨ st'.tr.length = st.tr.length) (h24 : o = 24 ∨ st'.vs = st.vs) (h25 : o = 25 ∨ st'.pc = st.pc) (h38 : o = 38 ∨ st'.ve = st.ve) :
    ∀ o', o' ≠ o → st'.kdyn o' = st.kdyn o' := by
  intro o' ho
  unfold St.kdyn
  split
  · rw [h17.resolve_left (fun e => ho e.symm)]
  · rw [h20.resolve_left (fun e => ho e.symm)]
  · rw [h21.resolve_left (fun e => ho e.symm)]
  · rw [h22.resolve_left (fun e => ho e.symm)]
  · rw [h23.resolve_left (fun e => ho e.symm)]
  · rw [h24.resolve_left (fun e => ho e.symm)]
  · rw [h25.resolve_left (fun e => ho e.symm)]
  · rw [h38.resolve_left (fun e => ho e.symm)]
  · rfl

theorem Sta.setPc {L : Lay} {st : St} {w : World} (h : Sta L st w) (G : Good L) (t : Nat) : Sta L { st with pc := t } (w.setCell ⟨L.K, 25, none⟩ (.int .i64 (t : Nat))) :=
  ⟨h.core.setK (st' := { st with pc := t }) G (by simp [Lay.Dyn]) rfl rfl (kd_other (by simp) (by simp) (by simp) (by simp) (by simp) (by simp) (by simp) (by simp)) rfl rfl rfl rfl, (h.rest.spec G (by simp) _).of st.taken st.live st.wt st.lf t⟩

theorem Sta.setRc {L : Lay} {st : St} {w : World} (h : Sta L st w) (G : Good L) (hsv : st.bV < w.heap.size ∧ st.vs = .slice (some ⟨st.bV, 0, none⟩) (2 * L.n + 1) (2 * L.n + 1) ∧ ∃ cur, w.heap[st.bV]? = some (.cells cur 3 (0, 0)) ∧ cur.size = 2 * L.n + 1 ∧ cur[2 * L.n]? = some (.int .i64 (st.sv : Nat)))
    (hcV : st.col st.bV = 6 ∧ (L.w1.heap.size ≤ st.bV ∨ st.bV = L.xV)) : Sta L { st with rc := true } (w.setCell ⟨L.K, 20, none⟩ (.bool true)) := by
  have hr : Side L { st with rc := true } w := ⟨h.rest.rp, h.rest.rm, h.rest.re, h.rest.tc, h.rest.t0, h.rest.tb, fun _ => hsv, h.rest.cp, h.rest.cm, h.rest.ce, h.rest.cC, h.rest.cT, fun _ => hcV, h.rest.fo, h.rest.cF⟩
  exact ⟨h.core.setK (st' := { st with rc := true }) G (by simp [Lay.Dyn]) rfl rfl (kd_other (by simp) (by simp) (by simp) (by simp) (by simp) (by simp) (by simp) (by simp)) rfl rfl rfl rfl, hr.spec G (by simp) _⟩

/-- trail.len takes a smaller value. -/
theorem Sta.setLen {L : Lay} {st : St} {w : World} (h : Sta L st w) (G : Good L) (k : Nat) (hk : k ≤ st.tr.length) : Sta L { st with tr := st.tr.take k } (w.setCell ⟨L.K, 23, none⟩ (.int .i64 (k : Nat))) := by
  have hr : Side L { st with tr := st.tr.take k } w := ⟨h.rest.rp, h.rest.rm, h.rest.re, h.rest.tc, fun hc => ⟨(h.rest.t0 hc).1, by simp [(h.rest.t0 hc).2]⟩, fun hc => (by
      obtain ⟨h1, cur, h2, h3, h4⟩ := h.rest.tb hc
      refine ⟨h1, cur, h2, h3, fun i hi => ?_⟩
      simp only [List.length_take] at hi
      have := h4 i (by omega)
      simpa using this), h.rest.sv, h.rest.cp, h.rest.cm, h.rest.ce, h.rest.cC, h.rest.cT, h.rest.cV, h.rest.fo, h.rest.cF⟩
  refine ⟨h.core.setK (st' := { st with tr := st.tr.take k }) G (by simp [Lay.Dyn]) rfl ?_ (kd_other (by simp) (by simp) (by simp) (by simp) (by simp) (by simp) (by simp) (by simp)) rfl rfl rfl rfl, hr.spec G (by simp) _⟩
  simp only [St.kdyn, List.length_take, Nat.min_eq_left hk]

/-- The word's last change is told. -/
theorem Sta.setSv {L : Lay} {st : St} {w : World} (h : Sta L st w) (G : Good L) (hc : st.rc = true) (t : Nat) : Sta L { st with sv := t } (w.setCell ⟨st.bV, 2 * L.n, none⟩ (.int .i64 (t : Nat))) := by
  obtain ⟨h1, h2, cur, h3, h4, h5⟩ := h.rest.sv hc
  obtain ⟨c1, c2⟩ := h.rest.cV hc
  have := G.KV; have := G.SV; have := G.BV; have := G.WV; have := G.GV
  have := G.Kl; have := G.Sl; have := G.Bl; have := G.Wl; have := G.Gl
  have hne : ∀ g, st.col g ≠ 6 → g ≠ st.bV := by
    rintro g hg rfl
    exact hg c1
  refine ⟨(h.core.far G (h.core.fix.setCell (by rcases c2 with c2 | c2; exact .inl c2; exact .inr (by simp [Lay.Dyn, c2])) _) (fun b hb => Below.heap_setCell _ _ _ _ (by show b ≠ st.bV; omega))).ofSv t, ?_⟩
  refine ⟨row_kept h.rest.rp fun g hg _ _ => Below.heap_setCell _ _ _ _ (hne g (by rw [h.rest.cp g hg]; decide)), row_kept h.rest.rm fun g hg _ _ => Below.heap_setCell _ _ _ _ (hne g (by rw [h.rest.cm g hg]; decide)),
    row_kept h.rest.re fun g hg _ _ => Below.heap_setCell _ _ _ _ (hne g (by rw [h.rest.ce g hg]; decide)), fun hh => ?_, h.rest.t0, fun hh => ?_, fun _ => ?_, h.rest.cp, h.rest.cm, h.rest.ce, h.rest.cC, h.rest.cT, h.rest.cV, fun b o hb => (Below.heap_setCell _ _ _ _ (hne b (by rw [(h.rest.cF b o hb).1]; decide))).trans (h.rest.fo b o hb), h.rest.cF⟩
  · obtain ⟨a1, a2, a3, a4⟩ := h.rest.tc hh
    exact ⟨a1, a2, by simpa using a3, (co (.inl (Ne.symm (hne _ (by rw [(h.rest.cC hh).1]; decide))))).trans a4⟩
  · obtain ⟨a1, cu, a2, a3⟩ := h.rest.tb hh
    exact ⟨by simpa using a1, cu, (Below.heap_setCell _ _ _ _ (hne _ (by rw [(h.rest.cT hh).1]; decide))).trans a2, a3⟩
  · refine ⟨by simpa using h1, h2, cur.setIfInBounds (2 * L.n) (.int .i64 (t : Nat)), heap_setCell_same w st.bV (2 * L.n) cur 3 _ h3, by simpa using h4, ?_⟩
    rw [Array.getElem?_setIfInBounds_self_of_lt (by omega)]

theorem encI_map_push (xs : List Nat) (x : Nat) : (xs ++ [x]).map encI = xs.map encI ++ [encI x] := by simp

/-- A row of the call's own has been appended to: what is left of the state ahead of the store. -/
theorem Sta.grownRow {L : Lay} {st : St} {w w' : World} (h : Sta L st w) (G : Good L) (v : Value) (hv : ∀ g, v.ownBlock = some g → L.w1.heap.size ≤ g) (hg : w.grownBy w' v.ownBlock) : Core L st w' := by
  have := G.Kl; have := G.Sl; have := G.Bl; have := G.Wl; have := G.Gl
  have hz := h.core.fix.size
  exact h.core.far G (h.core.fix.grown hg hv) (fun b hb => hg.block b (by omega) (fun e => by have := hv b e.symm; omega))

theorem base_le {w : World} {base : Nat} {e : TypeId} {size : Nat} {v : Value} {n : Nat} {xs : List Value} (h : w.ownsRow base e size v n xs) : ∀ g, v.ownBlock = some g → base ≤ g := fun g hg => (h.lt g hg).1

def recol (c : Nat → Nat) (H x : Nat) : Nat → Nat := fun b => if b = H then x else c b
theorem recol_old {c : Nat → Nat} {H x b : Nat} (h : b ≠ H) : recol c H x b = c b := if_neg h
theorem recol_new {c : Nat → Nat} {H x : Nat} : recol c H x H = x := if_pos rfl

theorem own_some {g cap n : Nat} : (Value.slice (some ⟨g, 0, none⟩) n cap).ownBlock = some g := rfl

theorem row_cut {w : World} {base g n cap k : Nat} {v : Value} {xs : List Nat} (hv : v = .slice (some ⟨g, 0, none⟩) n cap) (hk : k ≤ xs.length) (h : w.ownsRow base 3 1 v xs.length (xs.map encI)) :
    w.ownsRow base 3 1 (.slice (some ⟨g, 0, none⟩) k cap) (xs.take k).length ((xs.take k).map encI) := by
  subst hv
  have hl : (xs.take k).length = k := by simp [Nat.min_eq_left hk]
  rw [hl]
  obtain ⟨_, h2⟩ := h
  rcases h2 with ⟨h0, _⟩ | ⟨g', cap', cur, hv, hg, hh, hn, hcap, hsz, htake⟩
  · cases h0
  · cases hv
    refine ⟨by simp [Nat.min_eq_left hk], .inr ⟨g, cap, cur, rfl, hg, hh, by omega, hcap, hsz, ?_⟩⟩
    have h3 : (cur.toList.take (xs.length * 1)).take (k * 1) = (xs.map encI).take (k * 1) := by rw [htake]
    rw [List.take_take, Nat.min_eq_left (by omega)] at h3
    rw [h3, Nat.mul_one, List.map_take]

/-- pl = append(pl, x). -/
theorem Sta.appP {L : Lay} {st : St} {w w' : World} (h : Sta L st w) (G : Good L) {x g cap : Nat} (hown : w'.ownsRow L.w1.heap.size 3 1 (.slice (some ⟨g, 0, none⟩) (st.pl.length + 1) cap) (st.pl.length + 1) (st.pl.map encI ++ [encI x])) (hg : w.grownBy w' st.vp.ownBlock) (hat : st.vp.ownBlock = some g ∨ g = w.heap.size) :
    Sta L { st with pl := st.pl ++ [x], vp := .slice (some ⟨g, 0, none⟩) (st.pl.length + 1) cap, col := recol st.col w.heap.size 1 } (w'.setCell ⟨L.K, 17, none⟩ (.slice (some ⟨g, 0, none⟩) (st.pl.length + 1) cap)) := by
  have hc := h.grownRow G st.vp (base_le h.rest.rp) hg
  have hr : Side L { st with pl := st.pl ++ [x], vp := .slice (some ⟨g, 0, none⟩) (st.pl.length + 1) cap, col := recol st.col w.heap.size 1 } w' := by
    have hk : ∀ (v : Value) (c : Nat), (∀ g, v.ownBlock = some g → st.col g = c) → c ≠ 1 → ∀ b, v.ownBlock = some b → b < w.heap.size → w'.heap[b]? = w.heap[b]? := fun v c hvc hc1 b hvb hbl => hg.block b hbl (fun e => hc1 (by rw [← hvc b hvb, h.rest.cp b e.symm]))
    have hk2 : ∀ (b : Nat), st.col b ≠ 1 → b < w.heap.size → w'.heap[b]? = w.heap[b]? := fun b hb1 hbl => hg.block b hbl (fun e => hb1 (h.rest.cp b e.symm))
    refine ⟨?_, row_kept h.rest.rm fun b hb _ hl => hk _ 2 h.rest.cm (by decide) b hb hl, row_kept h.rest.re fun b hb _ hl => hk _ 3 h.rest.ce (by decide) b hb hl, fun hh => ?_, h.rest.t0, fun hh => ?_, fun hh => ?_, ?_, ?_, ?_, ?_, ?_, ?_, fun b o hb => (hk2 b (by rw [(h.rest.cF b o hb).1]; decide) (Array.getElem?_eq_some_iff.1 (h.rest.fo b o hb)).1).trans (h.rest.fo b o hb), fun b o hb => ⟨(recol_old (Nat.ne_of_lt (Array.getElem?_eq_some_iff.1 (h.rest.fo b o hb)).1)).trans (h.rest.cF b o hb).1, (h.rest.cF b o hb).2⟩⟩
    · simpa using hown
    · obtain ⟨a1, a2, a3, a4⟩ := h.rest.tc hh
      exact ⟨a1, a2, Nat.lt_of_lt_of_le a3 hg.size, (World.cell?_of_block (w := w) (hk2 _ (by rw [(h.rest.cC hh).1]; decide) a3)).trans a4⟩
    · obtain ⟨a1, cu, a2, a3⟩ := h.rest.tb hh
      exact ⟨Nat.lt_of_lt_of_le a1 hg.size, cu, (hk2 _ (by rw [(h.rest.cT hh).1]; decide) a1).trans a2, a3⟩
    · obtain ⟨a1, a2, cu, a3, a4⟩ := h.rest.sv hh
      exact ⟨Nat.lt_of_lt_of_le a1 hg.size, a2, cu, (hk2 _ (by rw [(h.rest.cV hh).1]; decide) a1).trans a3, a4⟩
    · intro b hb
      cases hb
      rcases hat with ha | ha
      · show recol _ _ _ _ = _
        exact (recol_old (Nat.ne_of_lt (h.rest.rp.lt _ ha).2)).trans (h.rest.cp _ ha)
      · subst ha
        exact recol_new
    · intro b hb
      show recol _ _ _ _ = _
      exact (recol_old (Nat.ne_of_lt (h.rest.rm.lt _ hb).2)).trans (h.rest.cm _ hb)
    · intro b hb
      show recol _ _ _ _ = _
      exact (recol_old (Nat.ne_of_lt (h.rest.re.lt _ hb).2)).trans (h.rest.ce _ hb)
    · intro hh
      refine ⟨?_, (h.rest.cC hh).2⟩
      show recol _ _ _ _ = _
      exact (recol_old (Nat.ne_of_lt (h.rest.tc hh).2.2.1)).trans ((h.rest.cC hh).1)
    · intro hh
      refine ⟨?_, (h.rest.cT hh).2⟩
      show recol _ _ _ _ = _
      exact (recol_old (Nat.ne_of_lt (h.rest.tb hh).1)).trans ((h.rest.cT hh).1)
    · intro hh
      refine ⟨?_, (h.rest.cV hh).2⟩
      show recol _ _ _ _ = _
      exact (recol_old (Nat.ne_of_lt (h.rest.sv hh).1)).trans ((h.rest.cV hh).1)
  exact ⟨hc.setK (st' := { st with pl := st.pl ++ [x], vp := .slice (some ⟨g, 0, none⟩) (st.pl.length + 1) cap, col := recol st.col w.heap.size 1 }) G (by simp [Lay.Dyn]) rfl rfl (kd_other (by simp) (by simp) (by simp) (by simp) (by simp) (by simp) (by simp) (by simp)) rfl rfl rfl rfl, hr.spec G (by simp) _⟩

/-- pl = pl[:k]. -/
theorem Sta.cutP {L : Lay} {st : St} {w : World} (h : Sta L st w) (G : Good L) {g n cap k : Nat} (hv : st.vp = .slice (some ⟨g, 0, none⟩) n cap) (hk : k ≤ st.pl.length) :
    Sta L { st with pl := st.pl.take k, vp := .slice (some ⟨g, 0, none⟩) k cap } (w.setCell ⟨L.K, 17, none⟩ (.slice (some ⟨g, 0, none⟩) k cap)) := by
  have hr : Side L { st with pl := st.pl.take k, vp := .slice (some ⟨g, 0, none⟩) k cap } w := by
    refine ⟨row_cut hv hk h.rest.rp, h.rest.rm, h.rest.re, h.rest.tc, h.rest.t0, h.rest.tb, h.rest.sv, fun b hb => h.rest.cp b (by rw [hv]; exact hb), h.rest.cm, h.rest.ce, h.rest.cC, h.rest.cT, h.rest.cV, h.rest.fo, h.rest.cF⟩
  exact ⟨h.core.setK (st' := { st with pl := st.pl.take k, vp := .slice (some ⟨g, 0, none⟩) k cap }) G (by simp [Lay.Dyn]) rfl rfl (kd_other (by simp) (by simp) (by simp) (by simp) (by simp) (by simp) (by simp) (by simp)) rfl rfl rfl rfl, hr.spec G (by simp) _⟩

/-- mk = append(mk, x). -/
theorem Sta.appM {L : Lay} {st : St} {w w' : World} (h : Sta L st w) (G : Good L) {x g cap : Nat} (hown : w'.ownsRow L.w1.heap.size 3 1 (.slice (some ⟨g, 0, none⟩) (st.mks.length + 1) cap) (st.mks.length + 1) (st.mks.map encI ++ [encI x])) (hg : w.grownBy w' st.vm.ownBlock) (hat : st.vm.ownBlock = some g ∨ g = w.heap.size) :
    Sta L { st with mks := st.mks ++ [x], vm := .slice (some ⟨g, 0, none⟩) (st.mks.length + 1) cap, col := recol st.col w.heap.size 2 } (w'.setCell ⟨L.K, 21, none⟩ (.slice (some ⟨g, 0, none⟩) (st.mks.length + 1) cap)) := by
  have hc := h.grownRow G st.vm (base_le h.rest.rm) hg
  have hr : Side L { st with mks := st.mks ++ [x], vm := .slice (some ⟨g, 0, none⟩) (st.mks.length + 1) cap, col := recol st.col w.heap.size 2 } w' := by
    have hk : ∀ (v : Value) (c : Nat), (∀ g, v.ownBlock = some g → st.col g = c) → c ≠ 2 → ∀ b, v.ownBlock = some b → b < w.heap.size → w'.heap[b]? = w.heap[b]? := fun v c hvc hc1 b hvb hbl => hg.block b hbl (fun e => hc1 (by rw [← hvc b hvb, h.rest.cm b e.symm]))
    have hk2 : ∀ (b : Nat), st.col b ≠ 2 → b < w.heap.size → w'.heap[b]? = w.heap[b]? := fun b hb1 hbl => hg.block b hbl (fun e => hb1 (h.rest.cm b e.symm))
    refine ⟨row_kept h.rest.rp fun b hb _ hl => hk _ 1 h.rest.cp (by decide) b hb hl, ?_, row_kept h.rest.re fun b hb _ hl => hk _ 3 h.rest.ce (by decide) b hb hl, fun hh => ?_, h.rest.t0, fun hh => ?_, fun hh => ?_, ?_, ?_, ?_, ?_, ?_, ?_, fun b o hb => (hk2 b (by rw [(h.rest.cF b o hb).1]; decide) (Array.getElem?_eq_some_iff.1 (h.rest.fo b o hb)).1).trans (h.rest.fo b o hb), fun b o hb => ⟨(recol_old (Nat.ne_of_lt (Array.getElem?_eq_some_iff.1 (h.rest.fo b o hb)).1)).trans (h.rest.cF b o hb).1, (h.rest.cF b o hb).2⟩⟩
    · simpa using hown
    · obtain ⟨a1, a2, a3, a4⟩ := h.rest.tc hh
      exact ⟨a1, a2, Nat.lt_of_lt_of_le a3 hg.size, (World.cell?_of_block (w := w) (hk2 _ (by rw [(h.rest.cC hh).1]; decide) a3)).trans a4⟩
    · obtain ⟨a1, cu, a2, a3⟩ := h.rest.tb hh
      exact ⟨Nat.lt_of_lt_of_le a1 hg.size, cu, (hk2 _ (by rw [(h.rest.cT hh).1]; decide) a1).trans a2, a3⟩
    · obtain ⟨a1, a2, cu, a3, a4⟩ := h.rest.sv hh
      exact ⟨Nat.lt_of_lt_of_le a1 hg.size, a2, cu, (hk2 _ (by rw [(h.rest.cV hh).1]; decide) a1).trans a3, a4⟩
    · intro b hb
      show recol _ _ _ _ = _
      exact (recol_old (Nat.ne_of_lt (h.rest.rp.lt _ hb).2)).trans (h.rest.cp _ hb)
    · intro b hb
      cases hb
      rcases hat with ha | ha
      · show recol _ _ _ _ = _
        exact (recol_old (Nat.ne_of_lt (h.rest.rm.lt _ ha).2)).trans (h.rest.cm _ ha)
      · subst ha
        exact recol_new
    · intro b hb
      show recol _ _ _ _ = _
      exact (recol_old (Nat.ne_of_lt (h.rest.re.lt _ hb).2)).trans (h.rest.ce _ hb)
    · intro hh
      refine ⟨?_, (h.rest.cC hh).2⟩
      show recol _ _ _ _ = _
      exact (recol_old (Nat.ne_of_lt (h.rest.tc hh).2.2.1)).trans ((h.rest.cC hh).1)
    · intro hh
      refine ⟨?_, (h.rest.cT hh).2⟩
      show recol _ _ _ _ = _
      exact (recol_old (Nat.ne_of_lt (h.rest.tb hh).1)).trans ((h.rest.cT hh).1)
    · intro hh
      refine ⟨?_, (h.rest.cV hh).2⟩
      show recol _ _ _ _ = _
      exact (recol_old (Nat.ne_of_lt (h.rest.sv hh).1)).trans ((h.rest.cV hh).1)
  exact ⟨hc.setK (st' := { st with mks := st.mks ++ [x], vm := .slice (some ⟨g, 0, none⟩) (st.mks.length + 1) cap, col := recol st.col w.heap.size 2 }) G (by simp [Lay.Dyn]) rfl rfl (kd_other (by simp) (by simp) (by simp) (by simp) (by simp) (by simp) (by simp) (by simp)) rfl rfl rfl rfl, hr.spec G (by simp) _⟩

/-- mk = mk[:k]. -/
theorem Sta.cutM {L : Lay} {st : St} {w : World} (h : Sta L st w) (G : Good L) {g n cap k : Nat} (hv : st.vm = .slice (some ⟨g, 0, none⟩) n cap) (hk : k ≤ st.mks.length) :
    Sta L { st with mks := st.mks.take k, vm := .slice (some ⟨g, 0, none⟩) k cap } (w.setCell ⟨L.K, 21, none⟩ (.slice (some ⟨g, 0, none⟩) k cap)) := by
  have hr : Side L { st with mks := st.mks.take k, vm := .slice (some ⟨g, 0, none⟩) k cap } w := by
    refine ⟨h.rest.rp, row_cut hv hk h.rest.rm, h.rest.re, h.rest.tc, h.rest.t0, h.rest.tb, h.rest.sv, h.rest.cp, fun b hb => h.rest.cm b (by rw [hv]; exact hb), h.rest.ce, h.rest.cC, h.rest.cT, h.rest.cV, h.rest.fo, h.rest.cF⟩
  exact ⟨h.core.setK (st' := { st with mks := st.mks.take k, vm := .slice (some ⟨g, 0, none⟩) k cap }) G (by simp [Lay.Dyn]) rfl rfl (kd_other (by simp) (by simp) (by simp) (by simp) (by simp) (by simp) (by simp) (by simp)) rfl rfl rfl rfl, hr.spec G (by simp) _⟩

/-- em = append(em, x). -/
theorem Sta.appE {L : Lay} {st : St} {w w' : World} (h : Sta L st w) (G : Good L) {x g cap : Nat} (hown : w'.ownsRow L.w1.heap.size 3 1 (.slice (some ⟨g, 0, none⟩) (st.ems.length + 1) cap) (st.ems.length + 1) (st.ems.map encI ++ [encI x])) (hg : w.grownBy w' st.ve.ownBlock) (hat : st.ve.ownBlock = some g ∨ g = w.heap.size) :
    Sta L { st with ems := st.ems ++ [x], ve := .slice (some ⟨g, 0, none⟩) (st.ems.length + 1) cap, col := recol st.col w.heap.size 3 } (w'.setCell ⟨L.K, 38, none⟩ (.slice (some ⟨g, 0, none⟩) (st.ems.length + 1) cap)) := by
  have hc := h.grownRow G st.ve (base_le h.rest.re) hg
  have hr : Side L { st with ems := st.ems ++ [x], ve := .slice (some ⟨g, 0, none⟩) (st.ems.length + 1) cap, col := recol st.col w.heap.size 3 } w' := by
    have hk : ∀ (v : Value) (c : Nat), (∀ g, v.ownBlock = some g → st.col g = c) → c ≠ 3 → ∀ b, v.ownBlock = some b → b < w.heap.size → w'.heap[b]? = w.heap[b]? := fun v c hvc hc1 b hvb hbl => hg.block b hbl (fun e => hc1 (by rw [← hvc b hvb, h.rest.ce b e.symm]))
    have hk2 : ∀ (b : Nat), st.col b ≠ 3 → b < w.heap.size → w'.heap[b]? = w.heap[b]? := fun b hb1 hbl => hg.block b hbl (fun e => hb1 (h.rest.ce b e.symm))
    refine ⟨row_kept h.rest.rp fun b hb _ hl => hk _ 1 h.rest.cp (by decide) b hb hl, row_kept h.rest.rm fun b hb _ hl => hk _ 2 h.rest.cm (by decide) b hb hl, ?_, fun hh => ?_, h.rest.t0, fun hh => ?_, fun hh => ?_, ?_, ?_, ?_, ?_, ?_, ?_, fun b o hb => (hk2 b (by rw [(h.rest.cF b o hb).1]; decide) (Array.getElem?_eq_some_iff.1 (h.rest.fo b o hb)).1).trans (h.rest.fo b o hb), fun b o hb => ⟨(recol_old (Nat.ne_of_lt (Array.getElem?_eq_some_iff.1 (h.rest.fo b o hb)).1)).trans (h.rest.cF b o hb).1, (h.rest.cF b o hb).2⟩⟩
    · simpa using hown
    · obtain ⟨a1, a2, a3, a4⟩ := h.rest.tc hh
      exact ⟨a1, a2, Nat.lt_of_lt_of_le a3 hg.size, (World.cell?_of_block (w := w) (hk2 _ (by rw [(h.rest.cC hh).1]; decide) a3)).trans a4⟩
    · obtain ⟨a1, cu, a2, a3⟩ := h.rest.tb hh
      exact ⟨Nat.lt_of_lt_of_le a1 hg.size, cu, (hk2 _ (by rw [(h.rest.cT hh).1]; decide) a1).trans a2, a3⟩
    · obtain ⟨a1, a2, cu, a3, a4⟩ := h.rest.sv hh
      exact ⟨Nat.lt_of_lt_of_le a1 hg.size, a2, cu, (hk2 _ (by rw [(h.rest.cV hh).1]; decide) a1).trans a3, a4⟩
    · intro b hb
      show recol _ _ _ _ = _
      exact (recol_old (Nat.ne_of_lt (h.rest.rp.lt _ hb).2)).trans (h.rest.cp _ hb)
    · intro b hb
      show recol _ _ _ _ = _
      exact (recol_old (Nat.ne_of_lt (h.rest.rm.lt _ hb).2)).trans (h.rest.cm _ hb)
    · intro b hb
      cases hb
      rcases hat with ha | ha
      · show recol _ _ _ _ = _
        exact (recol_old (Nat.ne_of_lt (h.rest.re.lt _ ha).2)).trans (h.rest.ce _ ha)
      · subst ha
        exact recol_new
    · intro hh
      refine ⟨?_, (h.rest.cC hh).2⟩
      show recol _ _ _ _ = _
      exact (recol_old (Nat.ne_of_lt (h.rest.tc hh).2.2.1)).trans ((h.rest.cC hh).1)
    · intro hh
      refine ⟨?_, (h.rest.cT hh).2⟩
      show recol _ _ _ _ = _
      exact (recol_old (Nat.ne_of_lt (h.rest.tb hh).1)).trans ((h.rest.cT hh).1)
    · intro hh
      refine ⟨?_, (h.rest.cV hh).2⟩
      show recol _ _ _ _ = _
      exact (recol_old (Nat.ne_of_lt (h.rest.sv hh).1)).trans ((h.rest.cV hh).1)
  exact ⟨hc.setK (st' := { st with ems := st.ems ++ [x], ve := .slice (some ⟨g, 0, none⟩) (st.ems.length + 1) cap, col := recol st.col w.heap.size 3 }) G (by simp [Lay.Dyn]) rfl rfl (kd_other (by simp) (by simp) (by simp) (by simp) (by simp) (by simp) (by simp) (by simp)) rfl rfl rfl rfl, hr.spec G (by simp) _⟩

/-- em = em[:k]. -/
theorem Sta.cutE {L : Lay} {st : St} {w : World} (h : Sta L st w) (G : Good L) {g n cap k : Nat} (hv : st.ve = .slice (some ⟨g, 0, none⟩) n cap) (hk : k ≤ st.ems.length) :
    Sta L { st with ems := st.ems.take k, ve := .slice (some ⟨g, 0, none⟩) k cap } (w.setCell ⟨L.K, 38, none⟩ (.slice (some ⟨g, 0, none⟩) k cap)) := by
  have hr : Side L { st with ems := st.ems.take k, ve := .slice (some ⟨g, 0, none⟩) k cap } w := by
    refine ⟨h.rest.rp, h.rest.rm, row_cut hv hk h.rest.re, h.rest.tc, h.rest.t0, h.rest.tb, h.rest.sv, h.rest.cp, h.rest.cm, fun b hb => h.rest.ce b (by rw [hv]; exact hb), h.rest.cC, h.rest.cT, h.rest.cV, h.rest.fo, h.rest.cF⟩
  exact ⟨h.core.setK (st' := { st with ems := st.ems.take k, ve := .slice (some ⟨g, 0, none⟩) k cap }) G (by simp [Lay.Dyn]) rfl rfl (kd_other (by simp) (by simp) (by simp) (by simp) (by simp) (by simp) (by simp) (by simp)) rfl rfl rfl rfl, hr.spec G (by simp) _⟩

/-- A block of cells that nothing of the closure touches is kept. -/
theorem Sta.keep {L : Lay} {st : St} {w : World} (h : Sta L st w) (b : Nat) (c : Array Value) (e : TypeId) (hb : w.heap[b]? = some (.cells c e (0, 0))) (h1 : L.w1.heap.size ≤ b)
    (hp : st.vp.ownBlock ≠ some b) (hm : st.vm.ownBlock ≠ some b) (he : st.ve.ownBlock ≠ some b) (hC : st.ch = true → st.bC ≠ b) (hT : st.ch = true → st.bT ≠ b) (hV : st.rc = true → st.bV ≠ b) :
    Sta L { st with col := recol st.col b 7, fo := fun k => if k = b then some (c, e) else st.fo k } w := by
  refine ⟨⟨h.core.fix, h.core.tk, h.core.lv, h.core.wt, h.core.lf, h.core.kd⟩, h.rest.rp, h.rest.rm, h.rest.re, h.rest.tc, h.rest.t0, h.rest.tb, h.rest.sv,
    fun g hg => (recol_old (fun x : g = b => hp (x ▸ hg))).trans (h.rest.cp g hg), fun g hg => (recol_old (fun x : g = b => hm (x ▸ hg))).trans (h.rest.cm g hg), fun g hg => (recol_old (fun x : g = b => he (x ▸ hg))).trans (h.rest.ce g hg),
    fun hc => ⟨(recol_old (hC hc)).trans (h.rest.cC hc).1, (h.rest.cC hc).2⟩, fun hc => ⟨(recol_old (hT hc)).trans (h.rest.cT hc).1, (h.rest.cT hc).2⟩, fun hc => ⟨(recol_old (hV hc)).trans (h.rest.cV hc).1, (h.rest.cV hc).2⟩, fun k o hk => ?_, fun k o hk => ?_⟩
  · dsimp only at hk
    split at hk
    · rename_i hkb
      cases hk
      subst hkb
      exact hb
    · exact h.rest.fo k o hk
  · dsimp only at hk
    by_cases hkb : k = b
    · subst hkb
      exact ⟨recol_new, h1⟩
    · rw [if_neg hkb] at hk
      exact ⟨(recol_old hkb).trans (h.rest.cF k o hk).1, (h.rest.cF k o hk).2⟩

/-- A new block is kept. -/
theorem Sta.keepNew {L : Lay} {st : St} {w w' : World} (h : Sta L st w) (G : Good L) (hB : Below w.heap.size w w') (b : Nat) (c : Array Value) (e : TypeId) (hb : w'.heap[b]? = some (.cells c e (0, 0))) (h1 : w.heap.size ≤ b) :
    Sta L { st with col := recol st.col b 7, fo := fun k => if k = b then some (c, e) else st.fo k } w' := by
  have hz := h.core.fix.size
  refine (h.below G hB).keep b c e hb (by omega) (fun x => ?_) (fun x => ?_) (fun x => ?_) (fun hc x => ?_) (fun hc x => ?_) (fun hc x => ?_)
  · have := (h.rest.rp.lt b x).2; omega
  · have := (h.rest.rm.lt b x).2; omega
  · have := (h.rest.re.lt b x).2; omega
  · have := (h.rest.tc hc).2.2.1; omega
  · have := (h.rest.tb hc).1; omega
  · have := (h.rest.sv hc).1; omega

/-- Fewer blocks are kept. -/
theorem Sta.less {L : Lay} {st : St} {w : World} (h : Sta L st w) (f : Nat → Option (Array Value × TypeId)) (hf : ∀ b o, f b = some o → st.fo b = some o) : Sta L { st with fo := f } w :=
  ⟨⟨h.core.fix, h.core.tk, h.core.lv, h.core.wt, h.core.lf, h.core.kd⟩, h.rest.rp, h.rest.rm, h.rest.re, h.rest.tc, h.rest.t0, h.rest.tb, h.rest.sv, h.rest.cp, h.rest.cm, h.rest.ce, h.rest.cC, h.rest.cT, h.rest.cV, fun b o hb => h.rest.fo b o (hf b o hb), fun b o hb => h.rest.cF b o (hf b o hb)⟩

theorem Sta.look {L : Lay} {st : St} {w : World} (h : Sta L st w) (G : Good L) :
    w.cell? ⟨L.K, 1, none⟩ = some (.int .i64 1) ∧ w.cell? ⟨L.K, 2, none⟩ = some (.pointer (some ⟨L.S, 0, none⟩)) ∧ w.cell? ⟨L.K, 3, none⟩ = some (.int .i64 1) ∧ w.cell? ⟨L.K, 4, none⟩ = some (.slice (some ⟨L.bB, 0, none⟩) (2 * L.n + 1) (2 * L.n + 1)) ∧
    w.cell? ⟨L.K, 6, none⟩ = some (.int .i64 L.n) ∧ w.cell? ⟨L.K, 7, none⟩ = some (.int .i64 (2 * L.n : Nat)) ∧ w.cell? ⟨L.K, 9, none⟩ = some (.slice (some ⟨L.bW, 0, none⟩) L.n L.n) ∧ w.cell? ⟨L.bB, 2 * L.n, none⟩ = some (.int .u64 st.live) ∧ w.cell? ⟨L.S, 0, none⟩ = some (.int .i64 st.taken) ∧
    w.cell? ⟨L.S, 1, none⟩ = some (.int .i64 1099511627776) ∧ w.frozen? ⟨L.S, 0, none⟩ = false ∧ L.K < w.heap.size ∧ L.S < w.heap.size :=
  ⟨h.core.fix.k G (o := 1) rfl, h.core.fix.k G (o := 2) rfl, h.core.fix.k G (o := 3) rfl, h.core.fix.k G (o := 4) rfl, h.core.fix.k G (o := 6) rfl, h.core.fix.k G (o := 7) rfl, h.core.fix.k G (o := 9) rfl, h.core.lv, h.core.tk, h.core.fix.limit G, h.core.fix.fr G (b := L.S) (by simp [Lay.Spec]) 0, Nat.lt_of_lt_of_le G.Kl h.core.fix.size, Nat.lt_of_lt_of_le G.Sl h.core.fix.size⟩

end Go.Proofs.YbulkcoguDoor
