import Derived.Test.YbulkcoguDoorChange
import Derived.Test.YbulkcoguDoorMembers
namespace Go.Proofs.YbulkcoguDoor
open Go.RowKit Go.Deep Go.Shelf
set_option linter.unusedVariables false
set_option linter.unusedSimpArgs false

attribute [local go_sem] Oper.semAt_some

/-- A function whose body ranges over a function, by the plain walk. -/
theorem calls_marks {P : Program} {f : FuncId} {fn : Func} {c : Code} {args : Array Value} {w : World} {R : Ending → World → Prop} (hf : P.funcs[f]? = some fn) (hb : fn.body = some c)
    (h : c.wp P (bodyPostM Fence.wide 9 P fn R) { tmps := args ++ Array.replicate (fn.ntmps - args.size) undef, defers := [] } w) : Calls P f args w R :=
  (callsIn_wide (n := 9)).1 (callsIn_of_wp_marks hf hb trivial (wpIn_wide.2 h) rfl)

/-- The state abides the turn of a block that is no cells. -/
theorem Sta.turn {L : Lay} {st : St} {w w' : World} (h : Sta L st w) (G : Good L) {row : Option Nat} (hg : w.grownBy w' row) (hr : ∀ r, row = some r → L.w1.heap.size ≤ r ∧ ∃ o : Obj, w.heap[r]? = some o ∧ o.isCells = false) : Sta L st w' := by
  have hz := h.core.fix.size
  have := G.Kl; have := G.Sl; have := G.Bl; have := G.Wl; have := G.Gl
  have hr2 : ∀ r, row = some r → ∃ o : Obj, w.heap[r]? = some o ∧ o.isCells = false := fun r e => (hr r e).2
  have hno : ∀ {g : Nat} {c : Array Value} {e : TypeId} {fz : Nat × Nat}, w.heap[g]? = some (.cells c e fz) → w'.heap[g]? = w.heap[g]? := fun {g c e fz} hc => by
    refine hg.block g (Array.getElem?_eq_some_iff.1 hc).1 (fun er => ?_)
    obtain ⟨o, ho, hoc⟩ := hr2 g er.symm
    rw [hc] at ho
    cases ho
    cases hoc
  have hrow : ∀ {v : Value} {n : Nat} {xs : List Value}, w.ownsRow L.w1.heap.size 3 1 v n xs → w'.ownsRow L.w1.heap.size 3 1 v n xs := fun {v n xs} ho => by
    refine ⟨ho.1, ?_⟩
    rcases ho.2 with hn | ⟨g, cap, cur, hv, hb, hc, rest⟩
    · exact .inl hn
    · exact .inr ⟨g, cap, cur, hv, hb, (hno hc).trans hc, rest⟩
  refine ⟨h.core.far G (h.core.fix.grown hg (fun g e => (hr g e).1)) (fun b hb => hg.block b (by omega) (fun e => by have := (hr b e.symm).1; omega)), ?_⟩
  refine ⟨hrow h.rest.rp, hrow h.rest.rm, hrow h.rest.re, fun hc => ?_, h.rest.t0, fun hc => ?_, fun hc => ?_, h.rest.cp, h.rest.cm, h.rest.ce, h.rest.cC, h.rest.cT, h.rest.cV, fun b o hb => (hno (h.rest.fo b o hb)).trans (h.rest.fo b o hb), h.rest.cF⟩
  · obtain ⟨h1, h2, h3, h4⟩ := h.rest.tc hc
    exact ⟨h1, h2, Nat.lt_of_lt_of_le h3 hg.size, cell_kept h4 hg hr2⟩
  · obtain ⟨h1, cur, h2, h3⟩ := h.rest.tb hc
    exact ⟨Nat.lt_of_lt_of_le h1 hg.size, cur, (hno h2).trans h2, h3⟩
  · obtain ⟨h1, h2, cur, h3, h4⟩ := h.rest.sv hc
    exact ⟨Nat.lt_of_lt_of_le h1 hg.size, h2, cur, (hno h3).trans h3, h4⟩

theorem Sta.wtEq {L : Lay} {st : St} {w : World} (h : Sta L st w) (f : Nat → Int) (hf : ∀ u, u < L.n → f u = st.wt u) : Sta L { st with wt := f } w :=
  ⟨⟨h.core.fix, h.core.tk, h.core.lv, fun u hu => by show _ = some (Value.int _ (f u)); rw [hf u hu]; exact h.core.wt u hu, h.core.lf, h.core.kd⟩, h.rest.of st.taken st.live f st.lf st.pc⟩

/-- x without bit v, as the machine has it. -/
def andOk (x v : Nat) : Bool := bits BinOp.andNot IntKind.u64 (x : Int) ((2 ^ v : Nat) : Int) == ((andn x v : Nat) : Int)

theorem andNot_all : ∀ x, x < 512 → ∀ v, v < 9 → andOk x v = true := by
  have h : ((List.range 512).all fun x => (List.range 9).all fun v => andOk x v) = true := by decide +kernel
  intro x hx v hv
  exact List.all_eq_true.1 (List.all_eq_true.1 h x (List.mem_range.2 hx)) v (List.mem_range.2 hv)

theorem andNot_at {x v : Nat} (hx : x < 512) (hv : v < 9) : bits BinOp.andNot IntKind.u64 (x : Int) ((2 ^ v : Nat) : Int) = ((andn x v : Nat) : Int) := by
  have := andNot_all x hx v hv
  simpa [andOk] using this

/-- What killing v does. -/
structure Killed (L : Lay) (v : Nat) (st st' : St) : Prop where
  live : st'.live = andn st.live v
  wt : st'.wt = fun u => st.wt u - bit (L.add v) u
  taken : st'.taken ≤ st.taken + 20
  lf : st'.lf = st.lf
  pl : st'.pl = st.pl
  mks : st'.mks = st.mks
  ems : st'.ems = st.ems
  rc : st'.rc = st.rc
  pc : st'.pc = st.pc
  fo : st'.fo = st.fo
  tr : st'.tr = if st.rc = true ∧ st.sv ≠ st.pc then st.tr ++ [st.live] else st.tr
  sv : st'.sv = if st.rc = true then st.pc else st.sv

/-- Counts move by d at each of l. -/
def bump (d : Int) (f : Nat → Int) (l : List Nat) : Nat → Int := l.foldl (fun f u => put f u (f u + d)) f

theorem bump_snoc (d : Int) (f : Nat → Int) (l : List Nat) (y : Nat) : bump d f (l ++ [y]) = put (bump d f l) y (bump d f l y + d) := by
  simp [bump]

theorem bump_at (d : Int) (l : List Nat) (hl : l.Nodup) : ∀ (f : Nat → Int) (u : Nat), bump d f l u = f u + if u ∈ l then d else 0 := by
  induction l with
  | nil => intro f u; simp [bump]
  | cons y l ih =>
    intro f u
    have hn := List.nodup_cons.1 hl
    show bump d (put f y (f y + d)) l u = _
    rw [ih hn.2]
    by_cases hu : u = y
    · subst hu
      simp [put, hn.1]
    · simp [put, hu]

theorem bump_bound (d : Int) (hd : -1 ≤ d ∧ d ≤ 1) (l : List Nat) : ∀ (f : Nat → Int) (u : Nat), f u - l.length ≤ bump d f l u ∧ bump d f l u ≤ f u + l.length := by
  induction l with
  | nil => intro f u; simp [bump]
  | cons y l ih =>
    intro f u
    show _ ≤ bump d (put f y (f y + d)) l u ∧ bump d (put f y (f y + d)) l u ≤ _
    have := ih (put f y (f y + d)) u
    simp only [List.length_cons]
    by_cases hu : u = y
    · subst hu
      simp [put] at this
      omega
    · simp [put, hu] at this
      omega

theorem ones_nodup (n x : Nat) : (ones n x).Nodup := List.Nodup.sublist List.filter_sublist List.nodup_range

theorem ones_mem {x : Nat} (hx : x < 512) (u : Nat) : u ∈ ones 9 x ↔ x.testBit u = true := by
  simp only [ones, List.mem_filter, List.mem_range]
  constructor
  · exact fun h => h.2
  · intro h
    refine ⟨?_, h⟩
    rcases Nat.lt_or_ge u 9 with h9 | h9
    · exact h9
    · rw [big_bit hx h9] at h; cases h

theorem bump_ones {x : Nat} (hx : x < 512) (d : Int) (f : Nat → Int) (u : Nat) : bump d f (ones 9 x) u = f u + d * bit x u := by
  rw [bump_at d _ (ones_nodup 9 x)]
  unfold bit
  by_cases h : x.testBit u = true
  · rw [if_pos ((ones_mem hx u).2 h), if_pos h]; omega
  · rw [if_neg (fun hh => h ((ones_mem hx u).1 hh)), if_neg h]; omega

/-- The iterator's contract. -/
theorem members_stops (n : Nat) (hn : 1 ≤ n) (Bs n₀ bB at_ N x : Nat) (hN : N ≤ 9) (hx : x < 512) (hxN : ∀ u ∈ ones 9 x, u < N) (hb : bB < n₀) (hn0 : 0 < n₀) (w0 : World)
    (hBs : w0.cell? ⟨Bs, 0, none⟩ = some (.slice (some ⟨bB, at_, none⟩) 1 1)) (hc : w0.cell? ⟨bB, at_, none⟩ = some (.int .u64 x)) (hT : TabAt 0 Lib.deBruijn64tab w0) (hT0 : 0 < w0.heap.size) :
    SeqStopsK Fence.wide n Ybad.prog 28 #[.pointer (some ⟨Bs, 0, none⟩)] (fun (y : Nd N) => #[.int .i64 (y.1 : Nat)]) (Below n₀) (fun ys => ys.map (·.1) = ones 9 x) (fun _ => True) 100 w0 := by
  intro l J Jx W hW hJ hJx hY h0
  exact members1_in n hn l Bs n₀ bB at_ N x hN hx hxN hb hn0 J Jx hY W ((hW.cell (p := ⟨Bs, 0, none⟩) (World.block_lt_of_cell? _ _ hBs)).trans hBs) ((hW.cell (p := ⟨bB, at_, none⟩) (World.block_lt_of_cell? _ _ hc)).trans hc)
    (fun j hj => (hW.cell (p := ⟨0, j, none⟩) hT0).trans (hT j hj)) h0

/-- (*steps).take on the state. -/
theorem take_sta {L : Lay} (G : Good L) {st : St} {w : World} (h : Sta L st w) (htk : st.taken ≤ 10000000) (d : Nat) (dI : Int) (hdI : dI = d) (hd : d ≤ 1000) :
    Calls Ybad.prog 20 #[.pointer (some ⟨L.S, 0, none⟩), .int .i64 dI] w fun e w' => e = .returned (.tuple #[]) ∧ Sta L { st with taken := st.taken + d } w' ∧ ∃ n, w' = (w.drewN n).setCell ⟨L.S, 0, none⟩ (.int .i64 ((st.taken : Int) + dI)) := by
  obtain ⟨_, _, _, _, _, _, _, _, ks, kl, fs, _, _⟩ := h.look G
  refine (take_any L.S st.taken dI w ks kl fs (by omega) (by omega) (by omega) (by omega)).mono ?_
  rintro e w' ⟨rfl, n, rfl⟩
  refine ⟨rfl, ?_, n, rfl⟩
  have := (h.drewN n).setTaken G (st.taken + d)
  rw [hdI]
  simpa using this

theorem Below.stored {B : Nat} {a w : World} (h : Below B a w) {b o : Nat} (hp : B ≤ b) (u : Value) : Below B a (w.setCell ⟨b, o, none⟩ u) := h.setCell (p := ⟨b, o, none⟩) hp u

theorem below_drewN {B : Nat} {a w : World} (h : Below B a w) (n : Nat) : Below B a (w.drewN n) := ⟨h.os, h.tape, h.output, h.size, h.block⟩

/-- A range over a function with one plain loop variable: slot p is handed in, slot d is the variable. -/
theorem range_one {F : Fence} {n : Nat} {P : Program} {α : Type} {g : Operand} {p d : Tmp} {assign body : Code} {Q : Exit → Act → World → Prop} {a : Act} {w : World}
    (hro : F.round = none) (h1 : 1 ≤ n) {gf : Nat} {lb : Array Value} (hg : a.eval g = .func (.func gf) #[] lb) (hFg : F.fn gf) (eg : ∀ args w, (callFunc gf args).run P w = .ok (.enter gf args) w)
    {enc : α → Value} {Kp : World → World → Prop} {S Sp : List α → Prop} {N : Nat} {w0 : World} (hseq : SeqStopsK F (n - 1) P gf lb (fun x => #[enc x]) Kp S Sp N w0)
    (hKt : ∀ {A B C : World}, Kp A B → Kp B C → Kp A C) (hKb : ∀ (W : World) (l : Nat) (o o' : Obj), w.heap.size ≤ l → W.heap[l]? = some o → o.isCells = false → o.isWalk = false → Kp W (W.putObj l o')) (hb0 : Below w0.heap.size w0 w)
    (I : List α → World → Prop) (hI : OwnFrom w.heap.size I) (h0 : I [] w)
    (hassign : ∀ (l : Nat) (x : α) (W : World) (K : Act → World → Prop), K { tmps := (a.tmps.setIfInBounds p (enc x)).setIfInBounds d (enc x), defers := [] } W →
      assign.wpIn (F.inRound l) (n - 1 - 1) P (Exit.then K (fun _ _ _ => False)) { tmps := a.tmps.setIfInBounds p (enc x), defers := [] } W)
    (hbody : ∀ (l : Nat) (pre : List α) (x : α) (W : World), I pre W → pre.length < N → body.wpIn (F.inRound l) (n - 1 - 1) P (ownPostK Kp I (fun _ _ _ => False) (pre ++ [x]) W) { tmps := (a.tmps.setIfInBounds p (enc x)).setIfInBounds d (enc x), defers := [] } W)
    (hdone : ∀ (D : Nat) (xs : List α) (W : World), w.heap.size ≤ D → S xs → I xs W → W.heap[D]? = some (.deferred (some [])) → Q .normal { a with defers := { target := .collected D, args := #[] } :: a.defers } W) :
    (Code.rangeFunc g #[p] assign body).wpIn F n P Q a w :=
  wpIn_rangeFunc_ownF hro h1 hg hFg eg hseq hKt hKb hb0 (fun _ => rfl) I (fun _ _ _ => False) hI (fun _ _ _ _ _ hs _ _ => hs) h0 (fun x => { tmps := (a.tmps.setIfInBounds p (enc x)).setIfInBounds d (enc x), defers := [] }) (fun l x W K hK => by have h := hassign l x W K hK; simpa using h) hbody hdone
    (fun _ _ _ _ _ _ h _ => h.elim)

theorem wrap_pow (v : Nat) (hv : v < 9) : IntKind.u64.wrap ((2 : Int) ^ v) = ((2 ^ v : Nat) : Int) := by
  have : v = 0 ∨ v = 1 ∨ v = 2 ∨ v = 3 ∨ v = 4 ∨ v = 5 ∨ v = 6 ∨ v = 7 ∨ v = 8 := by omega
  rcases this with rfl | rfl | rfl | rfl | rfl | rfl | rfl | rfl | rfl <;> rfl

set_option maxHeartbeats 1000000 in
theorem kill_any {L : Lay} (G : Good L) {st : St} {w : World} (h : Sta L st w) (hl : st.tr.length ≤ 100) (hlv : st.live < 512) (hpc : st.pc ≤ 1000) (hsv : st.sv ≤ 1000) (htk : st.taken ≤ 1000000) (hwt : ∀ u, u < L.n → -1000 ≤ st.wt u ∧ st.wt u ≤ 1000) (v : Nat) (hv : v < L.n) :
    Calls Ybad.prog 12 #[.pointer (some ⟨L.K, 0, none⟩), .int .i64 v] w fun e w' => e = .returned (.tuple #[]) ∧ ∃ st', Sta L st' w' ∧ Killed L v st st' := by
  have hn : L.n ≤ 9 := by have := G.m6; have := G.s3; unfold Lay.n; omega
  have HS : Hid (Sta L st w) := h
  have HX : Hid (bits BinOp.andNot IntKind.u64 (st.live : Int) ((2 ^ v : Nat) : Int) = ((andn st.live v : Nat) : Int)) := andNot_at hlv (show v < 9 by omega)
  have HWT : Hid (∀ u, u < L.n → -1000 ≤ st.wt u ∧ st.wt u ≤ 1000) := hwt
  obtain ⟨bx, hbx⟩ : ∃ bx, bx = w.heap.size := ⟨_, rfl⟩
  obtain ⟨wb, hwb⟩ : ∃ wb, wb = w.alloc (.cells #[Value.pointer (some ⟨L.K, 0, none⟩)] 25) := ⟨_, rfl⟩
  have hB : Below w.heap.size w wb := by rw [hwb]; exact (Below.refl _ w).alloc (Nat.le_refl _) _
  have hbo : wb.heap[bx]? = some (.cells #[Value.pointer (some ⟨L.K, 0, none⟩)] 25 (0, 0)) := by rw [hwb, hbx]; exact heap_alloc_new w _
  have hS0 := h.keepNew G hB bx _ 25 hbo (by omega)
  obtain ⟨st0, hst0⟩ : ∃ s : St, s = { st with col := recol st.col bx 7, fo := fun k => if k = bx then some (#[Value.pointer (some ⟨L.K, 0, none⟩)], 25) else st.fo k } := ⟨_, rfl⟩
  rw [← hst0] at hS0
  have HST0 : Hid (st0 = { st with col := recol st.col bx 7, fo := fun k => if k = bx then some (#[Value.pointer (some ⟨L.K, 0, none⟩)], 25) else st.fo k }) := hst0
  have HS0 : Hid (Sta L st0 wb) := hS0
  have HBOX : Hid (∀ (s : St) (W : World), Sta L s W → s.fo = st0.fo → W.cell? ⟨bx, 0, none⟩ = some (.pointer (some ⟨L.K, 0, none⟩)))   := fun s W hs he => by
    have := hs.rest.fo bx (#[Value.pointer (some ⟨L.K, 0, none⟩)], 25) (by rw [he, hst0]; simp)
    exact cell_in this rfl
  have e1 : st0.taken = st.taken := by rw [hst0]
  have e2 : st0.live = st.live := by rw [hst0]
  have htk0 : st0.taken ≤ 1000000 := by omega
  have HE2 : Hid (st0.live = st.live) := e2
  have HL0 : Hid (st0.tr.length ≤ 100) := by show _ ≤ _; rw [hst0]; exact hl
  have HP0 : Hid (st0.pc ≤ 1000) := by show _ ≤ _; rw [hst0]; exact hpc
  have HV0 : Hid (st0.sv ≤ 1000) := by show _ ≤ _; rw [hst0]; exact hsv
  have q0 := HBOX.out st0 wb hS0 rfl
  obtain ⟨k1, k2, k3, k4, k6, k7, k9, klv, ks, kl, fs, lK, lS⟩ := hS0.look G
  clear h hS0 hst0 hB hbo hwt e1 e2 k1 k4 k6 k7 k9 klv ks kl fs
  refine calls_marks Ybad.func12 rfl ?_
  simp only [Ybad.ntmps12, List.size_toArray, List.length_cons, List.length_nil, Nat.reduceAdd, Nat.reduceSub, Array.replicate_succ, Array.replicate_zero, List.push_toArray, List.append_toArray, List.nil_append, List.cons_append]
  go_wp2
  rw [← hwb, ← hbx]
  have HBX : Hid (bx = w.heap.size) := hbx
  clear hwb hbx
  go_region_held3 (fun w' => w'.cell? ⟨bx, 0, none⟩ = some (.pointer (some ⟨L.K, 0, none⟩)) ∧ w'.cell? ⟨L.K, 2, none⟩ = some (.pointer (some ⟨L.S, 0, none⟩)) ∧ w'.cell? ⟨L.K, 3, none⟩ = some (.int .i64 1)) (go_keep)
    (first | (go_at_call 20; refine (take_sta G (HS0.out.drewN 1) (by show st0.taken ≤ 10000000; omega) 2 2 rfl (by omega)).mono ?_; rintro _ w1 ⟨rfl, hS1, _⟩; have r0 := HBOX.out _ w1 hS1 rfl; obtain ⟨j1, j2, j3, j4, j6, j7, j9, jlv, _, _, _, _, _⟩ := hS1.look G; have HS1 : Hid _ := hS1; clear hS1))
  obtain ⟨N, hN⟩ : ∃ N, 2 * L.n = N := ⟨_, rfl⟩
  have HN : Hid (2 * L.n = N) := hN
  obtain ⟨M, hM⟩ : ∃ M, N + 1 = M := ⟨_, rfl⟩
  rw [hN] at j7 j4 jlv
  rw [hM] at j4
  have hN18 : N ≤ 18 := by omega
  have hMN : N < M := by omega
  have hv64 : v / 64 = 0 := by omega
  have hv64' : v % 64 = v := by omega
  clear hN
  go_wp2
  go_quiet (fail)
  go_wp2
  have hI0 : (0 : Int) ≤ (N : Int) := by omega
  have hI1 : (N : Int) < (M : Int) := by omega
  have hI2 : decide ((N : Int) < (M : Int)) = true := by simp; omega
  have hw : IntKind.i64.wrap (N : Int) = N := by rw [IntKind.wrap_i64]; omega
  have hq : (N : Int) + (v : Int) / 64 = N := by omega
  rw [hq]
  have htm : (v : Int).tmod 64 = v := by rw [Int.tmod_eq_emod_of_nonneg (by omega)]; omega
  have hxx := HX.out
  rw [← HE2.out] at hxx
  have hsh := wrap_pow v (by omega)
  obtain ⟨p, hp⟩ : ∃ p, 2 ^ v = p := ⟨_, rfl⟩
  obtain ⟨x, hx⟩ : ∃ x, andn st0.live v = x := ⟨_, rfl⟩
  have HXL : Hid (x < 512) := by have := andn_lt (v := v) hlv; rw [← HE2.out, hx] at this; exact this
  have HXE : Hid (andn st0.live v = x) := hx
  rw [hp] at hxx
  rw [hp] at hsh
  rw [hx] at hxx
  clear hp hx
  refine wp_region_noPanic ?_
  refine wp_region_L (fun w' => w'.cell? ⟨bx, 0, none⟩ = some (.pointer (some ⟨L.K, 0, none⟩)) ∧ w'.cell? ⟨L.K, 4, none⟩ = some (.slice (some ⟨L.bB, 0, none⟩) M M) ∧ w'.cell? ⟨L.bB, N, none⟩ = some (.int .u64 st0.live)) 13 14 (by kernel_rfl) (by kernel_rfl) ?_
  have HSS : Hid ((fun w' : World => w'.cell? ⟨bx, 0, none⟩ = some (.pointer (some ⟨L.K, 0, none⟩)) ∧ w'.cell? ⟨L.K, 4, none⟩ = some (.slice (some ⟨L.bB, 0, none⟩) M M) ∧ w'.cell? ⟨L.bB, N, none⟩ = some (.int .u64 st0.live)) (w1.drewN nq).drew) := ⟨r0, j4, jlv⟩
  refine wpU_take (i := 0) (v := ?_) rfl (by kernel_rfl) (by kernel_rfl) (by kernel_rfl) (by kernel_rfl) (fun _ _ _ h => h) (by rfl) ?_ HSS.out ?_
  rotate_left
  · (intro wS hwS; (try dsimp only at hwS); go_simp; try with_reducible rfl)
  simp only [Act.put, List.getElem_toArray, List.getElem_cons_zero, List.getElem_cons_succ, List.setIfInBounds_toArray, List.set_cons_zero, List.set_cons_succ]
  refine wpU_take (i := 1) (v := ?_) rfl (by kernel_rfl) (by kernel_rfl) (by kernel_rfl) (by kernel_rfl) (fun _ _ _ h => h) (by rfl) ?_ HSS.out ?_
  rotate_left
  · (intro wS hwS; (try dsimp only at hwS); go_simp; try with_reducible rfl)
  simp only [Act.put, List.getElem_toArray, List.getElem_cons_zero, List.getElem_cons_succ, List.setIfInBounds_toArray, List.set_cons_zero, List.set_cons_succ]
  refine wpU_take (i := 2) (v := ?_) rfl (by kernel_rfl) (by kernel_rfl) (by kernel_rfl) (by kernel_rfl) (fun _ _ _ h => h) (by rfl) ?_ HSS.out ?_
  rotate_left
  · (intro wS hwS; (try dsimp only at hwS); go_simp; try with_reducible rfl)
  simp only [Act.put, List.getElem_toArray, List.getElem_cons_zero, List.getElem_cons_succ, List.setIfInBounds_toArray, List.set_cons_zero, List.set_cons_succ]
  refine wpU_take (i := 3) (v := ?_) rfl (by kernel_rfl) (by kernel_rfl) (by kernel_rfl) (by kernel_rfl) (fun _ _ _ h => h) (by rfl) ?_ HSS.out ?_
  rotate_left
  · (intro wS hwS; (try dsimp only at hwS); go_simp; try with_reducible rfl)
  simp only [Act.put, List.getElem_toArray, List.getElem_cons_zero, List.getElem_cons_succ, List.setIfInBounds_toArray, List.set_cons_zero, List.set_cons_succ]
  refine wpU_take (i := 4) (v := ?_) rfl (by kernel_rfl) (by kernel_rfl) (by kernel_rfl) (by kernel_rfl) (fun _ _ _ h => h) (by rfl) ?_ HSS.out ?_
  rotate_left
  · (intro wS hwS; (try dsimp only at hwS); go_simp; try with_reducible rfl)
  simp only [Act.put, List.getElem_toArray, List.getElem_cons_zero, List.getElem_cons_succ, List.setIfInBounds_toArray, List.set_cons_zero, List.set_cons_succ]
  refine wpU_take (i := 5) (v := ?_) rfl (by kernel_rfl) (by kernel_rfl) (by kernel_rfl) (by kernel_rfl) (fun _ _ _ h => h) (by rfl) ?_ HSS.out ?_
  rotate_left
  · (intro wS hwS; (try dsimp only at hwS); go_simp; try with_reducible rfl)
  simp only [Act.put, List.getElem_toArray, List.getElem_cons_zero, List.getElem_cons_succ, List.setIfInBounds_toArray, List.set_cons_zero, List.set_cons_succ]
  refine wpU_take (i := 6) (v := ?_) rfl (by kernel_rfl) (by kernel_rfl) (by kernel_rfl) (by kernel_rfl) (fun _ _ _ h => h) (by rfl) ?_ HSS.out ?_
  rotate_left
  · (intro wS hwS; (try dsimp only at hwS); go_simp; try with_reducible rfl)
  simp only [Act.put, List.getElem_toArray, List.getElem_cons_zero, List.getElem_cons_succ, List.setIfInBounds_toArray, List.set_cons_zero, List.set_cons_succ]
  refine wpU_take (i := 7) (v := ?_) rfl (by kernel_rfl) (by kernel_rfl) (by kernel_rfl) (by kernel_rfl) (fun _ _ _ h => h) (by rfl) ?_ HSS.out ?_
  rotate_left
  · (intro wS hwS; (try dsimp only at hwS); go_simp; try with_reducible rfl)
  simp only [Act.put, List.getElem_toArray, List.getElem_cons_zero, List.getElem_cons_succ, List.setIfInBounds_toArray, List.set_cons_zero, List.set_cons_succ]
  refine wpU_take (i := 8) (v := ?_) rfl (by kernel_rfl) (by kernel_rfl) (by kernel_rfl) (by kernel_rfl) (fun _ _ _ h => h) (by rfl) ?_ HSS.out ?_
  rotate_left
  · (intro wS hwS; (try dsimp only at hwS); go_simp; try with_reducible rfl)
  simp only [Act.put, List.getElem_toArray, List.getElem_cons_zero, List.getElem_cons_succ, List.setIfInBounds_toArray, List.set_cons_zero, List.set_cons_succ]
  refine wpU_take (i := 9) (v := ?_) rfl (by kernel_rfl) (by kernel_rfl) (by kernel_rfl) (by kernel_rfl) (fun _ _ _ h => h) (by rfl) ?_ HSS.out ?_
  rotate_left
  · (intro wS hwS; (try dsimp only at hwS); go_simp; try with_reducible rfl)
  simp only [Act.put, List.getElem_toArray, List.getElem_cons_zero, List.getElem_cons_succ, List.setIfInBounds_toArray, List.set_cons_zero, List.set_cons_succ]
  refine wpU_take (i := 10) (v := ?_) rfl (by kernel_rfl) (by kernel_rfl) (by kernel_rfl) (by kernel_rfl) (fun _ _ _ h => h) (by rfl) ?_ HSS.out ?_
  rotate_left
  · (intro wS hwS; (try dsimp only at hwS); go_simp; try with_reducible rfl)
  simp only [Act.put, List.getElem_toArray, List.getElem_cons_zero, List.getElem_cons_succ, List.setIfInBounds_toArray, List.set_cons_zero, List.set_cons_succ]
  refine wpU_take (i := 11) (v := ?_) rfl (by kernel_rfl) (by kernel_rfl) (by kernel_rfl) (by kernel_rfl) (fun _ _ _ h => h) (by rfl) ?_ HSS.out ?_
  rotate_left
  · (intro wS hwS; (try dsimp only at hwS); go_simp; try with_reducible rfl)
  simp only [Act.put, List.getElem_toArray, List.getElem_cons_zero, List.getElem_cons_succ, List.setIfInBounds_toArray, List.set_cons_zero, List.set_cons_succ]
  refine wpU_take (i := 12) (v := ?_) rfl (by kernel_rfl) (by kernel_rfl) (by kernel_rfl) (by kernel_rfl) (fun _ _ _ h => h) (by rfl) ?_ HSS.out ?_
  rotate_left
  · (intro wS hwS; (try dsimp only at hwS); go_simp; try with_reducible rfl)
  simp only [Act.put, List.getElem_toArray, List.getElem_cons_zero, List.getElem_cons_succ, List.setIfInBounds_toArray, List.set_cons_zero, List.set_cons_succ]
  refine wpL_one (i := 13) (by kernel_rfl) rfl (fun K hK => ?_)
  simp only [List.getElem_toArray, List.getElem_cons_zero, List.getElem_cons_succ]
  go_simp
  have hch := change_any G (HS1.out.drewN (nq + 1)) HL0.out (show st0.live < 512 by rw [HE2.out]; exact hlv) HP0.out HV0.out x HXL.out
  rw [HN.out] at hch
  refine hch.mono ?_
  clear hch
  rintro _ w3 ⟨rfl, st3, hS3, hC3⟩
  refine hK.out _ _ (fun h => absurd rfl h) ?_
  clear hK K
  refine wpL_done (by kernel_rfl) ?_ _
  refine NoPanic.normal ?_
  have r3 := HBOX.out _ w3 hS3 hC3.fo
  have HS3 : Hid (Sta L st3 w3) := hS3
  have HC3 : Hid (Changed x { st0 with taken := st0.taken + 2 } st3) := hC3
  clear hS3 hC3 HSS HS1 hI0 hI1 hI2 hw hq htm hxx hsh j1 j2 j3 j4 j6 j7 j9 jlv r0 q0 k2 k3
  go_wp2_with (first | (go_at_call 23; refine (added_any G v hv _ HS3.out.core.fix).mono ?_; rintro _ _ ⟨rfl, nA, rfl⟩) | (go_at_call 22; refine (callsIn_wide.1 (members_in Fence.wide 9 trivial rfl _ _ _ _)).mono ?_; rintro _ _ ⟨rfl, rfl⟩))
  obtain ⟨w4, hw4⟩ : ∃ w4, w4 = ((w3.drewN nA).alloc (Obj.cells #[Value.slice (some ⟨L.bB, L.n + v, none⟩) 1 1] 23)) := ⟨_, rfl⟩
  obtain ⟨Bs, hBs⟩ : ∃ Bs, Bs = w3.heap.size := ⟨_, rfl⟩
  have hB4 : Below w3.heap.size w3 w4 := by rw [hw4]; exact ⟨rfl, rfl, rfl, by simp, fun k hk => Below.heap_alloc _ _ _ hk⟩
  have hS4 : Sta L st3 w4 := HS3.out.below G hB4
  have cBs : w4.cell? ⟨Bs, 0, none⟩ = some (.slice (some ⟨L.bB, L.n + v, none⟩) 1 1) := by
    rw [hw4, hBs]
    exact cell_in (heap_alloc_new (w3.drewN nA) _) rfl
  rw [← hw4, ← hBs]
  have HS4 : Hid (Sta L st3 w4) := hS4
  have hw1 : L.w1.heap.size ≤ w4.heap.size := hS4.core.fix.size
  have hBl := G.Bl
  have hadd := hS4.core.fix.addAt G hv
  have htab := hS4.core.fix.tab G
  have hx512 : L.add v < 512 := Nat.lt_of_lt_of_le (G.add_lt v) (Nat.pow_le_pow_right (n := 2) (by omega) hn)
  have hxN : ∀ u ∈ ones 9 (L.add v), u < L.n := fun u hu => by
    have hb := (ones_mem hx512 u).1 hu
    rcases Nat.lt_or_ge u L.n with h | h
    · exact h
    · rw [Nat.testBit_lt_two_pow (Nat.lt_of_lt_of_le (G.add_lt v) (Nat.pow_le_pow_right (by omega) h))] at hb
      cases hb
  clear hw4 hB4 hS4 r3
  refine (wpIn_wide (n := 9)).1 ?_
  refine range_one (p := 46) (d := 5) rfl (by omega) (gf := 28) (lb := #[.pointer (some ⟨Bs, 0, none⟩)]) rfl trivial (enters_of Ybad.func28 (by kernel_rfl) rfl) (enc := fun (y : Nd L.n) => .int .i64 (y.1 : Nat))
    (members_stops 8 (by omega) Bs (L.bB + 1) L.bB (L.n + v) L.n (L.add v) hn hx512 hxN (by omega) (by omega) w4 cBs hadd htab (by omega)) belowK_t (belowK_b (by omega)) (Below.refl _ _)
    (fun pre W => Sta L { st3 with taken := st3.taken + pre.length, wt := bump (-1) st3.wt (pre.map (·.1)) } W)
    (fun s A B row hs hg hr => hs.turn G hg (fun r e => ⟨Nat.le_trans hw1 (hr r e).1, (hr r e).2⟩)) HS4.out ?assign ?body ?done
  case assign =>
    intro l y W K hK
    simp only [List.setIfInBounds_toArray, List.set_cons_zero, List.set_cons_succ] at hK ⊢
    gi_wp2
    exact hK
  case body =>
    rintro l pre y W hIp hpl
    simp only [List.setIfInBounds_toArray, List.set_cons_zero, List.set_cons_succ]
    have hl3 := HC3.out.taken
    have htk3 : st3.taken ≤ 1000100 := by rw [hl3]; show st0.taken + 2 ≤ _; omega
    have hbb := bump_bound (-1) (by omega) (pre.map (·.1)) st3.wt y.1
    rw [List.length_map] at hbb
    have hwty : -1000 ≤ st3.wt y.1 ∧ st3.wt y.1 ≤ 1000 := by
      have := HWT.out y.1 y.2
      have e : st3.wt = st.wt := by rw [HC3.out.wt]; show st0.wt = _; rw [HST0.out]
      rw [e]; exact this
    have bS : L.bB + 1 ≤ L.S := G.BS
    have bW : L.bB + 1 ≤ L.bW := G.BW
    have hcy := hIp.core.wt y.1 y.2
    have r5 := HBOX.out _ W hIp HC3.out.fo
    obtain ⟨g1, g2, g3, g4, g6, g7, g9, glv, gs, gl, gf, lK5, lS5⟩ := hIp.look G
    have fW5 : W.frozen? ⟨L.bW, y.1, none⟩ = false := hIp.core.fix.fr G (b := L.bW) (by simp [Lay.Spec]) _
    have HT : Hid (Calls Ybad.prog 20 #[.pointer (some ⟨L.S, 0, none⟩), .int .i64 1] W fun e w' => e = .returned (.tuple #[]) ∧ Sta L { st3 with taken := st3.taken + pre.length + 1, wt := bump (-1) st3.wt (pre.map (·.1)) } w' ∧ (KeepsOthers W w' ∧ Below (L.bB + 1) W w')) := by
      refine (take_sta G hIp (by show st3.taken + pre.length ≤ _; omega) 1 1 rfl (by omega)).mono ?_
      rintro e w' ⟨rfl, hS, n, rfl⟩
      exact ⟨rfl, hS, (⟨Nat.le_refl _, fun _ _ h _ => h⟩ : KeepsOthers W (W.drewN n)).trans (KeepsOthers.setCell _ _ _), Below.stored (below_drewN (Below.refl _ W) n) bS _⟩
    obtain ⟨u, hu⟩ : ∃ u, u = y.1 := ⟨_, rfl⟩
    have hun : u < L.n := hu ▸ y.2
    obtain ⟨c, hc⟩ : ∃ c, bump (-1) st3.wt (pre.map (·.1)) y.1 = c := ⟨_, rfl⟩
    have HC : Hid (bump (-1) st3.wt (pre.map (·.1)) y.1 = c) := hc
    have HU : Hid (u = y.1) := hu
    rw [hc] at hbb
    have hc1 : -2000 ≤ c ∧ c ≤ 2000 := by omega
    rw [← hu] at hcy fW5 ⊢
    have HFR : Hid (∀ (s : St) (W : World), Sta L s W → W.frozen? ⟨L.bW, u, none⟩ = false) := fun s W h => h.core.fix.fr G (b := L.bW) (by simp [Lay.Spec]) _
    clear hIp hbb hwty hl3 hu hc
    gi_wp2_with (first | (refine ⟨trivial, ?_⟩; gi_at_call 20; refine (CallsIn.inRound l (callsIn_wide.2 HT.out)).mono ?_; rintro _ W6 ⟨rfl, hS6, hK6, hB6⟩; have q9 := (hS6.look G).2.2.2.2.2.2.1; have q0 := HBOX.out _ W6 hS6 HC3.out.fo; have qc := hS6.core.wt u hun; rw [HU.out] at qc; dsimp only at qc; rw [HC.out, ← HU.out] at qc; have qf := HFR.out _ W6 hS6; have HS6 : Hid _ := hS6; clear hS6))
    refine ⟨hK6.trans (KeepsOthers.setCell _ _ _), Below.stored hB6 bW _, ?_⟩
    have hfin := HS6.out.setWait G u hun (c + -1)
    have e2 : put (bump (-1) st3.wt (pre.map (·.1))) u (c + -1) = bump (-1) st3.wt ((pre ++ [y]).map (·.1)) := by
      rw [List.map_append]
      show _ = bump (-1) st3.wt (pre.map (·.1) ++ [y.1])
      rw [bump_snoc, HU.out, HC.out]
    dsimp only at hfin
    rw [e2] at hfin
    simp only [List.length_append, List.length_singleton]
    exact hfin
  case done =>
    rintro D ys W hD hys hIx hKD
    refine ⟨by simp, .inl ⟨_, _, rfl, run_takeDeferred hKD, ?_⟩⟩
    refine ⟨_, results_none rfl _ _ _, rfl, ?_⟩
    have hS9 := hIx.turn G (grownBy_putObj' W D (.deferred none)) (fun r e => by cases e; exact ⟨Nat.le_trans hw1 hD, _, hKD, rfl⟩)
    rw [hys] at hS9
    have hC := HC3.out
    have e0 := HST0.out
    have hyl : ys.length ≤ 9 := by
      have h1 := congrArg List.length hys
      have h9 : (ones 9 (L.add v)).length ≤ 9 := by
        have := List.length_filter_le (fun u => (L.add v).testBit u) (List.range 9)
        simpa [ones] using this
      simp at h1
      omega
    refine ⟨_, (hS9.wtEq (fun u => st.wt u - bit (L.add v) u) (fun u hu => ?_)).less st.fo (fun b o hb => ?_), ?_⟩
    · show _ = bump (-1) st3.wt (ones 9 (L.add v)) u
      rw [bump_ones hx512, hC.wt]
      show _ = st0.wt u + _
      rw [e0]
      show _ = st.wt u + _
      omega
    · show st3.fo b = some o
      rw [hC.fo]
      show st0.fo b = some o
      rw [e0]
      show (if b = bx then _ else st.fo b) = some o
      rw [if_neg ?_]
      · exact hb
      · rintro rfl
        have := (Array.getElem?_eq_some_iff.1 (HS.out.rest.fo _ o hb)).1
        have := HBX.out
        omega
    · refine ⟨?_, rfl, ?_, ?_, ?_, ?_, ?_, ?_, ?_, rfl, ?_, ?_⟩
      · show st3.live = _
        rw [hC.live, ← HXE.out, HE2.out]
      · show st3.taken + ys.length ≤ _
        rw [hC.taken]
        show st0.taken + 2 + ys.length ≤ _
        rw [e0]
        show st.taken + 2 + ys.length ≤ _
        omega
      · show st3.lf = _
        rw [hC.lf]; show st0.lf = _; rw [e0]
      · show st3.pl = _
        rw [hC.pl]; show st0.pl = _; rw [e0]
      · show st3.mks = _
        rw [hC.mks]; show st0.mks = _; rw [e0]
      · show st3.ems = _
        rw [hC.ems]; show st0.ems = _; rw [e0]
      · show st3.rc = _
        rw [hC.rc]; show st0.rc = _; rw [e0]
      · show st3.pc = _
        rw [hC.pc]; show st0.pc = _; rw [e0]
      · show st3.tr = _
        rw [hC.tr]
        show (if st0.rc = true ∧ st0.sv ≠ st0.pc then st0.tr ++ [st0.live] else st0.tr) = _
        rw [e0]
      · show st3.sv = _
        rw [hC.sv]
        show (if st0.rc = true then st0.pc else st0.sv) = _
        rw [e0]
end Go.Proofs.YbulkcoguDoor
