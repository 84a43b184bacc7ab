import Derived.Test.YbulkcoecFmtOver
import Derived.Test.YbulkcoecFmtPlainShelf
namespace Go.Proofs.YbulkcoecFmt
open Go.RowKit Go.Deep Go.Extern.Stop Go.Stop Go.MuLone
set_option linter.unusedVariables false
set_option linter.unusedSimpArgs false

theorem seven (w : World) (o0 o1 o2 o3 o4 o5 o6 : Obj) {W : World} (hW : W = ((((((w.alloc o0).alloc o1).alloc o2).alloc o3).alloc o4).alloc o5).alloc o6) :
    W.heap[w.heap.size]? = some o0 ∧ W.heap[w.heap.size + 1]? = some o1 ∧ W.heap[w.heap.size + 1 + 1]? = some o2 ∧ W.heap[w.heap.size + 1 + 1 + 1]? = some o3 ∧ W.heap[w.heap.size + 1 + 1 + 1 + 1]? = some o4 ∧ W.heap[w.heap.size + 1 + 1 + 1 + 1 + 1]? = some o5 ∧ W.heap[w.heap.size + 1 + 1 + 1 + 1 + 1 + 1]? = some o6 ∧ W.heap.size = w.heap.size + 7 ∧ Below w.heap.size w W := by
  have S := fun (W : World) (o : Obj) => Stay.alloc (fun _ => False) W o
  have n0 := heap_alloc_new w o0
  have n1 := heap_alloc_new (w.alloc o0) o1
  have n2 := heap_alloc_new ((w.alloc o0).alloc o1) o2
  have n3 := heap_alloc_new (((w.alloc o0).alloc o1).alloc o2) o3
  have n4 := heap_alloc_new ((((w.alloc o0).alloc o1).alloc o2).alloc o3) o4
  have n5 := heap_alloc_new (((((w.alloc o0).alloc o1).alloc o2).alloc o3).alloc o4) o5
  have n6 := heap_alloc_new ((((((w.alloc o0).alloc o1).alloc o2).alloc o3).alloc o4).alloc o5) o6
  simp only [World.size_alloc] at n1 n2 n3 n4 n5 n6
  have f : ∀ e : False, False := fun e => e
  rw [hW]
  exact ⟨(S _ o6).at_ ((S _ o5).at_ ((S _ o4).at_ ((S _ o3).at_ ((S _ o2).at_ ((S _ o1).at_ n0 f) f) f) f) f) f, (S _ o6).at_ ((S _ o5).at_ ((S _ o4).at_ ((S _ o3).at_ ((S _ o2).at_ n1 f) f) f) f) f, (S _ o6).at_ ((S _ o5).at_ ((S _ o4).at_ ((S _ o3).at_ n2 f) f) f) f, (S _ o6).at_ ((S _ o5).at_ ((S _ o4).at_ n3 f) f) f, (S _ o6).at_ ((S _ o5).at_ n4 f) f, (S _ o6).at_ n5 f, n6, by simp only [World.size_alloc],
    ((((((S w o0).trans (S _ o1)).trans (S _ o2)).trans (S _ o3)).trans (S _ o4)).trans (S _ o5)).trans (S _ o6) |>.below (Nat.le_refl _) (fun _ _ e => e)⟩

theorem nil_ne (b : Nat) : (Value.slice none 0 0).ownBlock ≠ some b := by
  intro e
  cases e

/-- The blocks beside the queue's. -/
structure Bl where
  bP : Nat
  r : Nat
  bk : Nat
  b : Nat
  c : Nat

structure Bl.Ok (Y : Bl) (X : Pl) (w : World) : Prop where
  P : Y.bP < X.bN
  R : Y.r < X.bN
  k : Y.bk < X.bN
  K : X.bK < X.bN
  L : X.bL < X.bN
  F : X.bF < X.bN
  M : X.bM < X.bN
  B : X.B = w.heap.size
  bP : X.B ≤ Y.bP
  bR : X.B ≤ Y.r
  bk : X.B ≤ Y.bk
  PM : Y.bP ≠ X.bM
  RM : Y.r ≠ X.bM
  kM : Y.bk ≠ X.bM
  PK : Y.bP ≠ X.bK
  RK : Y.r ≠ X.bK
  kK : Y.bk ≠ X.bK
  PL : Y.bP ≠ X.bL
  RL : Y.r ≠ X.bL
  kL : Y.bk ≠ X.bL

/-- What stands while the queue is filled. -/
structure Lw (X : Pl) (Y : Bl) (w : World) (its : List Item) (vr want : Value) (mu taken : Int) (wr : World) : Prop where
  hn : Hn X mu taken vr false 0 (.slice none 0 0) [] wr
  qd : Qd X its vr (.slice none 0 0) wr
  row : wr.ownsRow (X.bN + 1) 9 1 want its.length (its.map (fun it => Value.string it.s))
  hP : wr.heap[Y.bP]? = some (.cells #[.nilFunc, .int .i64 0, .bool false, hval X.bK X.bL X.bF, .int .i64 0, .bool false] 92 (0, 0))
  hr : wr.heap[Y.r]? = some (.map #[⟨.agg #[.int .i64 0, .int .i64 1], .pointer (some ⟨X.bN, 0, none⟩), Y.b⟩] Y.c)
  hk : wr.heap[Y.bk]? = some (.cells #[.int .i64 0, .int .i64 1] 68 (0, 0))
  bel : Below w.heap.size w wr
  vb : ∀ g, vr.ownBlock = some g → X.bN < g
  pb : ∀ it ∈ its, X.bN < it.pb
  wv : ∀ g, want.ownBlock = some g → vr.ownBlock ≠ some g
  wp : ∀ it ∈ its, want.ownBlock ≠ some it.pb

theorem below_stay {w wr w2 : World} {S : Nat → Prop} (h : Below w.heap.size w wr) (hs : Stay S wr w2) (hn : ∀ b, b < w.heap.size → ¬ S b) : Below w.heap.size w w2 :=
  ⟨hs.os.trans h.os, hs.tape.trans h.tape, hs.output.trans h.output, Nat.le_trans h.size hs.size, fun k hk => (hs.block k (Nat.lt_of_lt_of_le hk h.size) (hn k hk)).trans (h.block k hk)⟩

/-- New blocks only. -/
theorem Lw.idle {X : Pl} {Y : Bl} {w : World} {its : List Item} {vr want : Value} {mu taken : Int} {wr w2 : World} (h : Lw X Y w its vr want mu taken wr) (hs : Stay (fun _ => False) wr w2) : Lw X Y w its vr want mu taken w2 :=
  ⟨h.hn.idle hs, ⟨hs.row h.qd.row (fun _ _ e => e), h.qd.ap, fun it hit => (h.qd.pd it hit).stay hs (fun e => e)⟩, hs.row h.row (fun _ _ e => e), hs.at_ h.hP (fun e => e), hs.at_ h.hr (fun e => e), hs.at_ h.hk (fun e => e), below_stay h.bel hs (fun _ _ e => e), h.vb, h.pb, h.wv, h.wp⟩

/-- One more copy waits. -/
theorem Lw.step {X : Pl} {Y : Bl} {w : World} (YO : Y.Ok X w) {its : List Item} {vr want : Value} {w2 W3 w4 w5 : World} (hl : Lw X Y w its vr want 0 0 w2) {it : Item} (hp : w2.heap.size = it.pb) (hs3 : Stay (fun _ => False) w2 W3) (hp3 : W3.heap[it.pb]? = some (.cells (pendArr it.id it.s it.to it.seq) 75 (0, 0)))
    {vr2 : Value} (hn4 : Hn X 0 0 vr2 false 0 (.slice none 0 0) [] w4) (row4 : w4.ownsRow X.B 96 2 vr2 (its.length + 1) (flat X its ++ [.pointer (some ⟨it.pb, 0, none⟩), hval X.bK X.bL X.bF])) (hs4 : Stay (fun b => b = X.bN ∨ vr.ownBlock = some b) W3 w4) (nr4 : NewRow W3 vr vr2) (ap4 : Apart X vr2 (.slice none 0 0))
    {gg cap : Nat} {o : Obj} (own5 : w5.ownsRow (X.bN + 1) 9 1 (.slice (some ⟨gg, 0, none⟩) (its.length + 1) cap) (its.length + 1) (its.map (fun it => Value.string it.s) ++ [.string it.s])) (gr5 : (w4.alloc o).grownBy w5 want.ownBlock) (at5 : want.ownBlock = some gg ∨ gg = w4.heap.size + 1) :
    Lw X Y w (its ++ [it]) vr2 (.slice (some ⟨gg, 0, none⟩) (its.length + 1) cap) 0 0 w5 := by
  have h3 := hl.idle hs3
  have hp3l : it.pb < W3.heap.size := lt_of hp3
  have hs5 : Stay (fun b => want.ownBlock = some b) w4 w5 := (Stay.alloc _ w4 o).trans (Stay.grown gr5 (fun g e => e))
  have hwb : ∀ g, want.ownBlock = some g → X.bN + 1 ≤ g ∧ g < it.pb := fun g hg => by have := hl.row.lt g hg; omega
  have hvb : ∀ g, vr.ownBlock = some g → X.bN < g ∧ g < it.pb := fun g hg => by have h1 := hl.vb g hg; have h2 := (hl.qd.row.lt g hg).2; omega
  have hN2 : X.bN < it.pb := by have := lt_of hl.hn.n; omega
  have c1 := YO.P; have c2 := YO.R; have c3 := YO.k; have c4 := YO.K; have c5 := YO.L; have c6 := YO.F; have c7 := YO.M; have c8 := YO.B
  have hvnew : ∀ g, want.ownBlock = some g → vr2.ownBlock ≠ some g := fun g hg => nr4.ne (by have := hwb g hg; omega) (hl.wv g hg)
  have hlow : ∀ {b : Nat} {oo : Obj}, b < X.bN → W3.heap[b]? = some oo → w5.heap[b]? = some oo := fun {b oo} hb h => by
    have h1 := hs4.at_ h (by rintro (e | e); omega; have := hvb _ e; omega)
    exact hs5.at_ h1 (fun e => by have := hwb _ e; omega)
  have hlen : (its ++ [it]).length = its.length + 1 := by simp
  refine ⟨hn4.stay hs5 (fun b hb e => by have h1 := hwb b e; have h2 := hl.hn.hs.BK; omega) (fun e => by have := hwb _ e; omega) (fun e => by have := hwb _ e; omega) (fun e => by have := hwb _ e; omega) (fun g hg => absurd hg (nil_ne g)) (fun e => by have := hwb _ e; omega) (fun e => by have := hwb _ e; omega), ⟨?_, ap4, fun i hi => ?_⟩, ?_, hlow c1 h3.hP, hlow c2 h3.hr, hlow c3 h3.hk, ?_, ?_, ?_, ?_, ?_⟩
  · rw [hlen, flat_snoc]
    exact hs5.row row4 (fun g hg e => hvnew g e hg)
  · rcases List.mem_append.1 hi with hi | hi
    · have q0 := h3.qd.pd i hi
      have q1 := q0.stay hs4 (by rintro (e | e); exact q0.N e; exact q0.r e)
      have q2 := q1.new nr4 (lt_of q0.at_)
      exact q2.stay hs5 (fun e => hl.wp i hi e)
    · simp at hi
      subst hi
      have q1 : vr.ownBlock ≠ some i.pb := fun e => by have := hvb _ e; omega
      exact ⟨hs5.at_ (hs4.at_ hp3 (by rintro (e | e); omega; exact q1 e)) (fun e => by have := hwb _ e; omega), by omega, by omega, by omega, by omega, nr4.ne hp3l q1, nil_ne _⟩
  · rw [hlen, List.map_append]
    exact own5
  · refine below_stay (below_stay h3.bel hs4 (fun b hb e => ?_)) hs5 (fun b hb e => ?_)
    · have := hl.hn.hs.BK
      rcases e with e | e
      · omega
      · have := hvb _ e; omega
    · have := hl.hn.hs.BK; have := hwb _ e; omega
  · intro g hg
    rcases nr4 with e | ⟨g', g1, g2⟩
    · rw [e] at hg
      exact hl.vb g hg
    · rw [g2] at hg
      have := Option.some.inj hg
      omega
  · intro i hi
    rcases List.mem_append.1 hi with hi | hi
    · exact hl.pb i hi
    · simp at hi
      subst hi
      exact hN2
  · intro g hg
    have hgg : gg = g := Option.some.inj hg
    subst hgg
    rcases at5 with e | e
    · exact hvnew _ e
    · intro e2
      have := (row4.lt _ e2).2
      omega
  · intro i hi e
    have hgg : gg = i.pb := Option.some.inj e
    rcases at5 with e5 | e5
    · rcases List.mem_append.1 hi with hi | hi
      · exact hl.wp i hi (by rw [e5, hgg])
      · simp at hi
        subst hi
        have := hwb _ e5
        omega
    · have h1 := hs4.size
      rcases List.mem_append.1 hi with hi | hi
      · have h2 := lt_of (h3.qd.pd i hi).at_
        omega
      · simp at hi
        subst hi
        omega

/-- What stands when the queue is full. -/
structure Lz (X : Pl) (Y : Bl) (w : World) (its : List Item) (vr want : Value) (ws : List Value) (n : Nat) (mu taken : Int) (wr : World) : Prop where
  hn : Hn X mu taken vr false 0 (.slice none 0 0) [] wr
  qd : Qd X its vr (.slice none 0 0) wr
  row : wr.ownsRow (X.bN + 1) 9 1 want n ws
  hP : wr.heap[Y.bP]? = some (.cells #[.nilFunc, .int .i64 0, .bool false, hval X.bK X.bL X.bF, .int .i64 0, .bool false] 92 (0, 0))
  hr : wr.heap[Y.r]? = some (.map #[⟨.agg #[.int .i64 0, .int .i64 1], .pointer (some ⟨X.bN, 0, none⟩), Y.b⟩] Y.c)
  hk : wr.heap[Y.bk]? = some (.cells #[.int .i64 0, .int .i64 1] 68 (0, 0))
  bel : Below w.heap.size w wr
  wv : ∀ g, want.ownBlock = some g → vr.ownBlock ≠ some g

/-- New blocks only. -/
theorem Lz.idle {X : Pl} {Y : Bl} {w : World} {its : List Item} {vr want : Value} {ws : List Value} {n : Nat} {mu taken : Int} {wr w2 : World} (h : Lz X Y w its vr want ws n mu taken wr) (hs : Stay (fun _ => False) wr w2) : Lz X Y w its vr want ws n mu taken w2 :=
  ⟨h.hn.idle hs, ⟨hs.row h.qd.row (fun _ _ e => e), h.qd.ap, fun it hit => (h.qd.pd it hit).stay hs (fun e => e)⟩, hs.row h.row (fun _ _ e => e), hs.at_ h.hP (fun e => e), hs.at_ h.hr (fun e => e), hs.at_ h.hk (fun e => e), below_stay h.bel hs (fun _ _ e => e), h.wv⟩

/-- taken is set. -/
theorem Lw.taken {X : Pl} (O : X.Ok) {Y : Bl} {w : World} (YO : Y.Ok X w) {its : List Item} {vr want : Value} {mu tk : Int} {wr : World} (h : Lw X Y w its vr want mu tk wr) (t : Int) : Lw X Y w its vr want mu t (wr.setCell ⟨X.bN, 2, none⟩ (.int .u64 t)) := by
  have hs : Stay (fun b => b = X.bN) wr (wr.setCell ⟨X.bN, 2, none⟩ (.int .u64 t)) := Stay.set _ _ _ _ rfl
  have c1 := YO.P; have c2 := YO.R; have c3 := YO.k; have c8 := YO.B
  refine ⟨h.hn.taken O t, ⟨hs.row h.qd.row (fun g hg e => h.qd.ap.N (by rw [hg, e])), h.qd.ap, fun it hit => (h.qd.pd it hit).stay hs (fun e => (h.qd.pd it hit).N e)⟩, hs.row h.row (fun g hg e => by have := (h.row.lt g hg).1; omega), hs.at_ h.hP (by omega), hs.at_ h.hr (by omega), hs.at_ h.hk (by omega), below_stay h.bel hs (fun b hb e => by have := O.BN; omega), h.vb, h.pb, h.wv, h.wp⟩

/-- want is complete. -/
theorem Lw.full {X : Pl} {Y : Bl} {w : World} (YO : Y.Ok X w) {its : List Item} {vr want : Value} {mu tk : Int} {w4 w5 : World} (h : Lw X Y w its vr want mu tk w4) {gg cap : Nat} {o : Obj} {s : Value} (own5 : w5.ownsRow (X.bN + 1) 9 1 (.slice (some ⟨gg, 0, none⟩) (its.length + 1) cap) (its.length + 1) (its.map (fun it => Value.string it.s) ++ [s])) (gr5 : (w4.alloc o).grownBy w5 want.ownBlock) (at5 : want.ownBlock = some gg ∨ gg = w4.heap.size + 1) :
    Lz X Y w its vr (.slice (some ⟨gg, 0, none⟩) (its.length + 1) cap) (its.map (fun it => Value.string it.s) ++ [s]) (its.length + 1) mu tk w5 := by
  have hs5 : Stay (fun b => want.ownBlock = some b) w4 w5 := (Stay.alloc _ w4 o).trans (Stay.grown gr5 (fun g e => e))
  have hwb : ∀ g, want.ownBlock = some g → X.bN + 1 ≤ g := fun g hg => (h.row.lt g hg).1
  have c1 := YO.P; have c2 := YO.R; have c3 := YO.k; have c4 := YO.K; have c5 := YO.L; have c6 := YO.F; have c7 := YO.M; have c8 := YO.B
  refine ⟨h.hn.stay hs5 (fun b hb e => by have h1 := hwb b e; have h2 := h.hn.hs.BK; omega) (fun e => by have := hwb _ e; omega) (fun e => by have := hwb _ e; omega) (fun e => by have := hwb _ e; omega) (fun g hg => absurd hg (nil_ne g)) (fun e => by have := hwb _ e; omega) (fun e => by have := hwb _ e; omega), ⟨hs5.row h.qd.row (fun g hg e => h.wv g e hg), h.qd.ap, fun i hi => (h.qd.pd i hi).stay hs5 (fun e => h.wp i hi e)⟩, own5, hs5.at_ h.hP (fun e => by have := hwb _ e; omega), hs5.at_ h.hr (fun e => by have := hwb _ e; omega), hs5.at_ h.hk (fun e => by have := hwb _ e; omega), below_stay h.bel hs5 (fun b hb e => by have h1 := hwb _ e; have h2 := h.hn.hs.BK; omega), fun g hg => ?_⟩
  have hgg : gg = g := Option.some.inj hg
  subst hgg
  rcases at5 with e | e
  · exact h.wv _ e
  · intro e2
    have := (h.qd.row.lt _ e2).2
    omega

/-- Whether one of the first j is a refusal. -/
def anyB (fs : List Bool) (j : Nat) : Bool := (List.range j).any fun t => fs.getD t false

theorem anyB_succ (fs : List Bool) (j : Nat) : anyB fs (j + 1) = (anyB fs j || fs.getD j false) := by
  simp [anyB, List.range_succ]

/-- The lock's word. -/
theorem Lz.lock {X : Pl} (O : X.Ok) {Y : Bl} {w : World} (YO : Y.Ok X w) {its : List Item} {vr want : Value} {ws : List Value} {n : Nat} {mu taken : Int} {wr : World} (h : Lz X Y w its vr want ws n mu taken wr) (mu' : Int) : Lz X Y w its vr want ws n mu' taken (wr.setCell ⟨X.bM, 4, none⟩ (.int .i32 mu')) := by
  have hs : Stay (fun b => b = X.bM) wr (wr.setCell ⟨X.bM, 4, none⟩ (.int .i32 mu')) := Stay.set _ _ _ _ rfl
  have c7 := YO.M; have c8 := YO.B
  exact ⟨h.hn.lock O mu', ⟨hs.row h.qd.row (fun g hg e => h.qd.ap.M (by rw [hg, e])), h.qd.ap, fun it hit => (h.qd.pd it hit).stay hs (fun e => (h.qd.pd it hit).M e)⟩, hs.row h.row (fun g hg e => by have := (h.row.lt g hg).1; omega), hs.at_ h.hP YO.PM, hs.at_ h.hr YO.RM, hs.at_ h.hk YO.kM, below_stay h.bel hs (fun b hb e => by have := O.BM; omega), h.wv⟩

set_option maxRecDepth 100000 in
set_option maxHeartbeats 4000000 in
theorem law_hand (F : Interp) (id pre : Nat) (hpre : pre < 256) (fa : Option Addr) (fl fc : Nat) (fs : List Bool) (w : World) (hF : F.answers w.tape) (hfs : AtBo w.heap.size w fa fs) (hlen : fs.length = fl) (hfl : fl ≤ 9223372036854775807) :
    Calls Ybaf.prog 5 #[.int .u64 id, .int .u8 pre, .slice fa fl fc] w fun e w' => e = .returned (.bool true) ∧ Below w.heap.size w w' := by
  obtain ⟨p, hp⟩ : ∃ x, pre % 8 = x := ⟨_, rfl⟩
  have q1 : (pre : Int).tmod 8 = (p : Int) := by rw [Int.tmod_eq_emod_of_nonneg (by omega), ← hp]; rfl
  have hp7 : p ≤ 7 := by omega
  have q4 : IntKind.u8.wrap (p : Int) = p := by rw [IntKind.wrap_u8]; omega
  have HX : Hid (F.answers w.tape ∧ AtBo w.heap.size w fa fs ∧ fs.length = fl ∧ fl ≤ 9223372036854775807) := ⟨hF, hfs, hlen, hfl⟩
  clear hp hF hfs hlen hfl
  have m49 : ∀ W : World, (Instr.makeSlice 49 (.int .i64 2) (.int .i64 2)).run Ybaf.prog W = .ok (.slice (some ⟨W.heap.size, 0, none⟩) 2 2) (W.alloc (.cells #[.nilFunc, .int .i64 0, .bool false, .nilFunc, .int .i64 0, .bool false] 92)) := fun W => by kernel_rfl
  have m50 : ∀ W : World, (Instr.makeMap 50 Option.none).run Ybaf.prog W = .ok (.map (some W.heap.size)) (W.alloc (.map #[] 0)) := fun W => run_makeMap_plain W 50
  go_enter Ybaf.func5, Ybaf.ntmps5
  go_upto_region 8 with (fail)
  clear m49 m50
  obtain ⟨bF, hbF⟩ : ∃ x, w.heap.size = x := ⟨_, rfl⟩
  obtain ⟨bP, hbP⟩ : ∃ x, w.heap.size + 1 = x := ⟨_, rfl⟩
  obtain ⟨r, hr⟩ : ∃ x, w.heap.size + 1 + 1 = x := ⟨_, rfl⟩
  obtain ⟨bM, hbM⟩ : ∃ x, w.heap.size + 1 + 1 + 1 = x := ⟨_, rfl⟩
  obtain ⟨bL, hbL⟩ : ∃ x, w.heap.size + 1 + 1 + 1 + 1 = x := ⟨_, rfl⟩
  obtain ⟨bK, hbK⟩ : ∃ x, w.heap.size + 1 + 1 + 1 + 1 + 1 = x := ⟨_, rfl⟩
  obtain ⟨bk, hbk⟩ : ∃ x, w.heap.size + 1 + 1 + 1 + 1 + 1 + 1 = x := ⟨_, rfl⟩
  obtain ⟨W0, hW0⟩ : ∃ W, W = ((((((w.alloc (.cells #[.slice fa fl fc] 47)).alloc (.cells #[.nilFunc, .int .i64 0, .bool false, hval bK bL bF, .int .i64 0, .bool false] 92)).alloc (.map #[] 0)).alloc (.cells (memArr 0 (.slice (some ⟨bP, 0, none⟩) 2 2) (.map (some r))) 66)).alloc (.cells #[.slice none 0 0] 22)).alloc (.cells #[.int .i64 0] 3)).alloc (.cells #[.int .i64 0, .int .i64 1] 68) := ⟨_, rfl⟩
  obtain ⟨s0, s1, s2, s3, s4, s5, s6, s7, s8⟩ := seven w _ _ _ _ _ _ _ hW0
  rw [hbk] at s6 ⊢
  rw [hbK] at s5 ⊢
  rw [hbL] at s4 ⊢
  rw [hbM] at s3 ⊢
  rw [hr] at s2 ⊢
  rw [hbP] at s1 ⊢
  rw [hbF] at s0 ⊢
  rw [show ((((((w.alloc (.cells #[.slice fa fl fc] 47)).alloc (.cells #[.nilFunc, .int .i64 0, .bool false, .func (.func 22) #[] #[.pointer (some ⟨bK, 0, none⟩), .pointer (some ⟨bL, 0, none⟩), .pointer (some ⟨bF, 0, none⟩)], .int .i64 0, .bool false] 92)).alloc (.map #[] 0)).alloc (.cells #[.slice none 0 0, .map none, .bool false, .float .f64 0, .int .i32 0, .int .u32 0, .slice (some ⟨bP, 0, none⟩) 2 2, .pointer none, .int .u64 0, .int .u64 0, .slice none 0 0, .slice none 0 0, .slice none 0 0, .map (some r)] 66)).alloc (.cells #[.slice none 0 0] 22)).alloc (.cells #[.int .i64 0] 3)).alloc (.cells #[.int .i64 0, .int .i64 1] 68) = W0 from hW0.symm]
  have HLN : Hid (Calls Ybaf.prog 15 #[.pointer (some ⟨bM, 0, none⟩), .agg #[.int .i64 0, .int .i64 1]] W0 fun e w' => ∃ bN, e = .returned (.pointer (some ⟨bN, 0, none⟩)) ∧ LaneMade bM r W0 bN w') := lane_any bM r _ W0 s3 s2 (by omega)
  have k0 := cell_in s6 (o := 0) (u := .int .i64 0) rfl
  have k1 := cell_in s6 (o := 1) (u := .int .i64 1) rfl
  have HS : Hid (W0.heap[bF]? = some (.cells #[.slice fa fl fc] 47) ∧ W0.heap[bP]? = some (.cells #[.nilFunc, .int .i64 0, .bool false, hval bK bL bF, .int .i64 0, .bool false] 92) ∧ W0.heap[bM]? = some (.cells (memArr 0 (.slice (some ⟨bP, 0, none⟩) 2 2) (.map (some r))) 66) ∧ W0.heap[bL]? = some (.cells #[.slice none 0 0] 22) ∧ W0.heap[bK]? = some (.cells #[.int .i64 0] 3) ∧ W0.heap[bk]? = some (.cells #[.int .i64 0, .int .i64 1] 68) ∧ W0.heap.size = w.heap.size + 7 ∧ Below w.heap.size w W0) := ⟨s0, s1, s3, s4, s5, s6, s7, s8⟩
  have HB : Hid (w.heap.size = bF ∧ w.heap.size + 1 = bP ∧ w.heap.size + 1 + 1 = r ∧ w.heap.size + 1 + 1 + 1 = bM ∧ w.heap.size + 1 + 1 + 1 + 1 = bL ∧ w.heap.size + 1 + 1 + 1 + 1 + 1 = bK ∧ w.heap.size + 1 + 1 + 1 + 1 + 1 + 1 = bk) := ⟨hbF, hbP, hr, hbM, hbL, hbK, hbk⟩
  clear s0 s1 s2 s3 s4 s5 s6 s7 s8 hbF hbP hr hbM hbL hbK hbk hW0
  go_upto_region 9 with (go_at_call 15; refine HLN.out.mono ?_; rintro _ w1 ⟨bN, rfl, hln⟩; have HLM : Hid (LaneMade bM r W0 bN w1) := hln; clear hln)
  obtain ⟨X, hXB, hXK, hXL, hXF, hXM, hXN, hXfa, hXfl, hXfc, hXfs, hXp, hXm⟩ : ∃ X : Pl, X.B = w.heap.size ∧ X.bK = bK ∧ X.bL = bL ∧ X.bF = bF ∧ X.bM = bM ∧ X.bN = bN ∧ X.fa = fa ∧ X.fl = fl ∧ X.fc = fc ∧ X.fs = fs ∧ X.vpr = .slice (some ⟨bP, 0, none⟩) 2 2 ∧ X.vmap = .map (some r) :=
    ⟨⟨w.heap.size, bK, bL, bF, bM, bN, fa, fl, fc, fs, _, _⟩, rfl, rfl, rfl, rfl, rfl, rfl, rfl, rfl, rfl, rfl, rfl, rfl⟩
  obtain ⟨b, c, hmp⟩ := HLM.out.mp
  obtain ⟨Y, hYP, hYr, hYk, hYb, hYc⟩ : ∃ Y : Bl, Y.bP = bP ∧ Y.r = r ∧ Y.bk = bk ∧ Y.b = b ∧ Y.c = c := ⟨⟨bP, r, bk, b, c⟩, rfl, rfl, rfl, rfl, rfl⟩
  subst hXK hXL hXF hXM hXN hXfa hXfl hXfc hXfs hYP hYr hYk hYb hYc
  obtain ⟨g0, g1, g3, g4, g5, g6, g7, g8⟩ := HS.out
  obtain ⟨e0, e1, e2, e3, e4, e5, e6⟩ := HB.out
  have hln := HLM.out
  have hlt := hln.lt
  have hO : X.Ok := ⟨by omega, by omega, by omega, by omega, by omega, by omega, by omega, by omega, by omega, HX.out.2.2.2⟩
  have hYO : Y.Ok X w := ⟨by omega, by omega, by omega, by omega, by omega, by omega, by omega, hXB, by omega, by omega, by omega, by omega, by omega, by omega, by omega, by omega, by omega, by omega, by omega, by omega⟩
  have hL0 : Lw X Y w [] (.slice none 0 0) (.slice none 0 0) 0 0 w1 := by
    have hst := hln.st
    have hbo : AtBo X.B w1 X.fa X.fs := by
      have h1 : AtBo w.heap.size w1 X.fa X.fs := fun j hj => by
        obtain ⟨bb, o, h1, h2, h3⟩ := HX.out.2.1 j hj
        refine ⟨bb, o, h1, h2, ?_⟩
        have h4 := g8.cell (p := ⟨bb, o + j, none⟩) h2
        have h5 := hst.cell (a := ⟨bb, o + j, none⟩) (show bb < W0.heap.size by omega) (show ¬ bb = Y.r by omega)
        rw [h5, h4, h3]
      rw [hXB]; exact h1
    refine ⟨⟨⟨hst.at_ g5 (by omega), hst.at_ g4 (by omega), hst.at_ g0 (by omega), World.ownsRow_nil _ _ _ _, HX.out.2.2.1, hbo, by omega, by omega, by omega, by omega, by omega, by omega, nil_ne _, nil_ne _, nil_ne _⟩, ?_, hln.ln, nil_ne _, nil_ne _, ?_⟩, ⟨World.ownsRow_nil _ _ _ _, ⟨nil_ne _, nil_ne _, nil_ne _, nil_ne _, nil_ne _, fun g hg => absurd hg (nil_ne g)⟩, fun it hit => (by cases hit)⟩, World.ownsRow_nil _ _ _ _, hst.at_ g1 (by omega), hmp, hst.at_ g6 (by omega), below_stay g8 hst (fun b hb e => by omega), fun g hg => absurd hg (nil_ne g), fun it hit => (by cases hit), fun g hg => absurd hg (nil_ne g), fun it hit => (by cases hit)⟩
    · rw [hXp, hXm]; exact hst.at_ g3 (by omega)
    · rw [hXB]; have := hst.size; omega
  have HO : Hid X.Ok := hO
  have HYO : Hid (Y.Ok X w) := hYO
  have HL0 : Hid (Lw X Y w [] (.slice none 0 0) (.slice none 0 0) 0 0 w1) := hL0
  have HXP : Hid (X.vpr = .slice (some ⟨Y.bP, 0, none⟩) 2 2 ∧ X.vmap = .map (some Y.r) ∧ X.B = w.heap.size) := ⟨hXp, hXm, hXB⟩
  clear hXB hXp hXm hmp g0 g1 g3 g4 g5 g6 g7 g8 e0 e1 e2 e3 e4 e5 e6 hln hlt hO hYO hL0 HLM HS HB HLN k0 k1
  clear W0
  go_wp2
  go_loopw [14, 15] (fun want q wr => ∃ (i : Nat) (its : List Item) (vr : Value), i ≤ p ∧ q = .int .i64 i ∧ its.length = i ∧ Lw X Y w its vr want 0 0 wr) (fun _ q _ => p - (intOf q).toNat)
  case atStart => exact ⟨0, [], _, Nat.zero_le _, rfl, rfl, HL0.out⟩
  case round =>
    obtain ⟨i, its, vr, hi, rfl, hil, hl⟩ := hrel
    by_cases hlt : i < p
    · have HRP : Hid (Calls Ybaf.prog 24 #[.string ⟨#[97]⟩, .int .i64 ((i : Int) + 1)] wr fun e w' => ∃ f, e = .returned (.string f) ∧ Below wr.heap.size wr w') := by
        have h9 := Ybaf.strings_Repeat ⟨#[97]⟩ (i + 1) wr (by omega) (by show 1 * (i + 1) ≤ _; omega)
        rw [show (((i + 1 : Nat) : Nat) : Int) = (i : Int) + 1 by omega] at h9
        exact h9.mono (fun e w' hh => ⟨_, hh.1, hh.2⟩)
      have HL : Hid (Lw X Y w its vr u14 0 0 wr) := hl
      have HIL : Hid (its.length = i) := hil
      clear hl hil
      go_upto_region 14 with (go_at_call 24; refine HRP.out.mono ?_; rintro _ w2 ⟨f, rfl, hb2⟩; have HB2 : Hid (Below wr.heap.size wr w2) := hb2; clear hb2)
      have hl2 : Lw X Y w its vr u14 0 0 w2 := HL.out.idle (Stay.of_below HB2.out)
      obtain ⟨pb, hpb⟩ : ∃ x, w2.heap.size = x := ⟨_, rfl⟩
      have wi : IntKind.u64.wrap (i : Int) = i := by rw [IntKind.wrap_u64]; omega
      have wi1 : IntKind.u64.wrap ((i : Int) + 1) = (i : Int) + 1 := by rw [IntKind.wrap_u64]; omega
      have HSS : Hid ((fun w' : World => w'.cell? ⟨Y.bk, 0, none⟩ = some (.int .i64 0) ∧ w'.cell? ⟨Y.bk, 1, none⟩ = some (.int .i64 1)) w2.drew) := ⟨cell_in hl2.hk (o := 0) rfl, cell_in hl2.hk (o := 1) rfl⟩
      obtain ⟨W3, hW3⟩ : ∃ W, W = (w2.alloc (.cells (pendArr i f ⟨#[98]⟩ ((i : Int) + 1)) 75)).drew := ⟨_, rfl⟩
      have hs3 : Stay (fun _ => False) w2 W3 := by rw [hW3]; exact (Stay.alloc _ _ _).drew
      have hp3 : W3.heap[pb]? = some (.cells (pendArr i f ⟨#[98]⟩ ((i : Int) + 1)) 75 (0, 0)) := by rw [hW3, ← hpb]; exact heap_alloc_new w2 _
      have h3 := hl2.idle hs3
      have HS3 : Hid ((fun w' : World => w'.cell? ⟨Y.bk, 0, none⟩ = some (.int .i64 0) ∧ w'.cell? ⟨Y.bk, 1, none⟩ = some (.int .i64 1)) W3) := ⟨cell_in h3.hk (o := 0) rfl, cell_in h3.hk (o := 1) rfl⟩
      have HAD : Hid (Calls Ybaf.prog 25 #[.pointer (some ⟨X.bN, 5, none⟩), .agg #[.pointer (some ⟨pb, 0, none⟩), .func (.func 22) #[] #[.pointer (some ⟨X.bK, 0, none⟩), .pointer (some ⟨X.bL, 0, none⟩), .pointer (some ⟨X.bF, 0, none⟩)]]] W3 fun e w' => e = .returned (.tuple #[]) ∧
          ∃ vr', Hn X 0 0 vr' false 0 (.slice none 0 0) [] w' ∧ w'.ownsRow X.B 96 2 vr' (its.length + 1) (flat X its ++ [.pointer (some ⟨pb, 0, none⟩), hval X.bK X.bL X.bF]) ∧ Stay (fun b => b = X.bN ∨ vr.ownBlock = some b) W3 w' ∧ NewRow W3 vr vr' ∧ Apart X vr' (.slice none 0 0)) :=
        add_any X HO.out h3.hn its.length (flat X its) h3.qd.row h3.qd.ap (by have := HIL.out; omega) pb
      have HST : Hid (∀ (w4 : World) (vr2 : Value), Hn X 0 0 vr2 false 0 (.slice none 0 0) [] w4 → w4.ownsRow X.B 96 2 vr2 (its.length + 1) (flat X its ++ [.pointer (some ⟨pb, 0, none⟩), hval X.bK X.bL X.bF]) → Stay (fun b => b = X.bN ∨ vr.ownBlock = some b) W3 w4 → NewRow W3 vr vr2 → Apart X vr2 (.slice none 0 0) → ∀ (o : Obj) (w5 : World) (gg cap : Nat), w5.ownsRow (X.bN + 1) 9 1 (.slice (some ⟨gg, 0, none⟩) (its.length + 1) cap) (its.length + 1) (its.map (fun it => Value.string it.s) ++ [.string f]) → (w4.alloc o).grownBy w5 u14.ownBlock → (u14.ownBlock = some gg ∨ gg = w4.heap.size + 1) →
          Lw X Y w (its ++ [⟨pb, i, f, ⟨#[98]⟩, (i : Int) + 1⟩]) vr2 (.slice (some ⟨gg, 0, none⟩) (its.length + 1) cap) 0 0 w5) :=
        fun w4 vr2 a1 a2 a3 a4 a5 o w5 gg cap b1 b2 b3 => Lw.step HYO.out hl2 (it := ⟨pb, i, f, ⟨#[98]⟩, (i : Int) + 1⟩) hpb hs3 hp3 a1 a2 a3 a4 a5 b1 b2 b3
      have HW3 : Hid ((w2.alloc (.cells (pendArr i f ⟨#[98]⟩ ((i : Int) + 1)) 75)).drew = W3 ∧ w2.heap.size = pb) := ⟨hW3.symm, hpb⟩
      have HR4 : Hid (∀ w4, Stay (fun b => b = X.bN ∨ vr.ownBlock = some b) W3 w4 → w4.ownsRow (X.bN + 1) 9 1 u14 its.length (its.map (fun it => Value.string it.s)) ∧ X.bN + 1 ≤ w4.heap.size) := fun w4 hs => by
        refine ⟨hs.row h3.row (fun g hg e => ?_), ?_⟩
        · have h8 := (h3.row.lt g hg).1
          rcases e with e | e
          · omega
          · exact h3.wv g hg e
        · have h8 := lt_of h3.hn.n; have h9 := hs.size; omega
      clear hl2 hpb hW3 hs3 hp3 h3
      refine wp_region_L (fun w' => w'.cell? ⟨Y.bk, 0, none⟩ = some (.int .i64 0) ∧ w'.cell? ⟨Y.bk, 1, none⟩ = some (.int .i64 1)) 15 16 (by kernel_rfl) (by kernel_rfl) ?_
      refine wpU_take (i := 0) (v := ?_) rfl (by kernel_rfl) (by kernel_rfl) (by kernel_rfl) (by kernel_rfl) (fun _ _ _ h => h) (by rfl) ?_ HSS.out ?_
      rotate_left
      · (intro wS hwS; (try dsimp only at hwS); go_simp; try with_reducible rfl)
      simp only [Act.put, List.getElem_toArray, List.getElem_cons_zero, List.getElem_cons_succ, List.setIfInBounds_toArray, List.set_cons_zero, List.set_cons_succ]
      refine wpU_take (i := 1) (v := ?_) rfl (by kernel_rfl) (by kernel_rfl) (by kernel_rfl) (by kernel_rfl) (fun _ _ _ h => h) (by rfl) ?_ HSS.out ?_
      rotate_left
      · (intro wS hwS; (try dsimp only at hwS); go_simp; try with_reducible rfl)
      simp only [Act.put, List.getElem_toArray, List.getElem_cons_zero, List.getElem_cons_succ, List.setIfInBounds_toArray, List.set_cons_zero, List.set_cons_succ]
      refine wpU_take (i := 2) (v := ?_) rfl (by kernel_rfl) (by kernel_rfl) (by kernel_rfl) (by kernel_rfl) (fun _ _ _ h => h) (by rfl) ?_ HSS.out ?_
      rotate_left
      · (intro wS hwS; (try dsimp only at hwS); go_simp; try with_reducible rfl)
      simp only [Act.put, List.getElem_toArray, List.getElem_cons_zero, List.getElem_cons_succ, List.setIfInBounds_toArray, List.set_cons_zero, List.set_cons_succ]
      refine wpU_take (i := 3) (v := ?_) rfl (by kernel_rfl) (by kernel_rfl) (by kernel_rfl) (by kernel_rfl) (fun _ _ _ h => h) (by rfl) ?_ HSS.out ?_
      rotate_left
      · (intro wS hwS; (try dsimp only at hwS); go_simp; try with_reducible rfl)
      simp only [Act.put, List.getElem_toArray, List.getElem_cons_zero, List.getElem_cons_succ, List.setIfInBounds_toArray, List.set_cons_zero, List.set_cons_succ]
      refine wpU_take (i := 4) (v := ?_) rfl (by kernel_rfl) (by kernel_rfl) (by kernel_rfl) (by kernel_rfl) (fun _ _ _ h => h) (by rfl) ?_ HSS.out ?_
      rotate_left
      · (intro wS hwS; (try dsimp only at hwS); go_simp; try with_reducible rfl)
      simp only [Act.put, List.getElem_toArray, List.getElem_cons_zero, List.getElem_cons_succ, List.setIfInBounds_toArray, List.set_cons_zero, List.set_cons_succ]
      refine wpU_take (i := 5) (v := ?_) rfl (by kernel_rfl) (by kernel_rfl) (by kernel_rfl) (by kernel_rfl) (fun _ _ _ h => h) (by rfl) ?_ HSS.out ?_
      rotate_left
      · (intro wS hwS; (try dsimp only at hwS); go_simp; try with_reducible rfl)
      simp only [Act.put, List.getElem_toArray, List.getElem_cons_zero, List.getElem_cons_succ, List.setIfInBounds_toArray, List.set_cons_zero, List.set_cons_succ]
      refine wpU_take (i := 6) (v := ?_) rfl (by kernel_rfl) (by kernel_rfl) (by kernel_rfl) (by kernel_rfl) (fun _ _ _ h => h) (by rfl) ?_ HSS.out ?_
      rotate_left
      · (intro wS hwS; (try dsimp only at hwS); go_simp; try with_reducible rfl)
      simp only [Act.put, List.getElem_toArray, List.getElem_cons_zero, List.getElem_cons_succ, List.setIfInBounds_toArray, List.set_cons_zero, List.set_cons_succ]
      refine wpU_take (i := 7) (v := ?_) rfl (by kernel_rfl) (by kernel_rfl) (by kernel_rfl) (by kernel_rfl) (fun _ _ _ h => h) (by rfl) ?_ HSS.out ?_
      rotate_left
      · (intro wS hwS; (try dsimp only at hwS); go_simp; try with_reducible rfl)
      simp only [Act.put, List.getElem_toArray, List.getElem_cons_zero, List.getElem_cons_succ, List.setIfInBounds_toArray, List.set_cons_zero, List.set_cons_succ]
      refine wpU_take (i := 8) (v := ?_) rfl (by kernel_rfl) (by kernel_rfl) (by kernel_rfl) (by kernel_rfl) (fun _ _ _ h => h) (by rfl) ?_ HSS.out ?_
      rotate_left
      · (intro wS hwS; (try dsimp only at hwS); go_simp; try with_reducible rfl)
      simp only [Act.put, List.getElem_toArray, List.getElem_cons_zero, List.getElem_cons_succ, List.setIfInBounds_toArray, List.set_cons_zero, List.set_cons_succ]
      refine wpU_take (i := 9) (v := ?_) rfl (by kernel_rfl) (by kernel_rfl) (by kernel_rfl) (by kernel_rfl) (fun _ _ _ h => h) (by rfl) ?_ HSS.out ?_
      rotate_left
      · (intro wS hwS; (try dsimp only at hwS); go_simp; try with_reducible rfl)
      simp only [Act.put, List.getElem_toArray, List.getElem_cons_zero, List.getElem_cons_succ, List.setIfInBounds_toArray, List.set_cons_zero, List.set_cons_succ]
      refine wpU_take (i := 10) (v := ?_) rfl (by kernel_rfl) (by kernel_rfl) (by kernel_rfl) (by kernel_rfl) (fun _ _ _ h => h) (by rfl) ?_ HSS.out ?_
      rotate_left
      · (intro wS hwS; (try dsimp only at hwS); go_simp; try with_reducible rfl)
      simp only [Act.put, List.getElem_toArray, List.getElem_cons_zero, List.getElem_cons_succ, List.setIfInBounds_toArray, List.set_cons_zero, List.set_cons_succ]
      refine wpU_take (i := 11) (v := ?_) rfl (by kernel_rfl) (by kernel_rfl) (by kernel_rfl) (by kernel_rfl) (fun _ _ _ h => h) (by rfl) ?_ HSS.out ?_
      rotate_left
      · (intro wS hwS; (try dsimp only at hwS); go_simp; try with_reducible rfl)
      simp only [Act.put, List.getElem_toArray, List.getElem_cons_zero, List.getElem_cons_succ, List.setIfInBounds_toArray, List.set_cons_zero, List.set_cons_succ]
      refine wpU_take (i := 13) (v := ?_) rfl (by kernel_rfl) (by kernel_rfl) (by kernel_rfl) (by kernel_rfl) (fun _ _ _ h => h) (by rfl) ?_ HSS.out ?_
      rotate_left
      · (intro wS hwS; (try dsimp only at hwS); go_simp; try with_reducible rfl)
      simp only [Act.put, List.getElem_toArray, List.getElem_cons_zero, List.getElem_cons_succ, List.setIfInBounds_toArray, List.set_cons_zero, List.set_cons_succ]
      refine wpL_one (i := 12) (by kernel_rfl) rfl (fun K hK => ?_)
      simp only [List.getElem_toArray, List.getElem_cons_zero, List.getElem_cons_succ]
      go_simp
      rw [show (w2.alloc (.cells #[.int .u64 (i : Int), .string f, .string ⟨#[98]⟩, .slice none 0 0, .int .i64 0, .int .i64 1, .int .u64 ((i : Int) + 1), .int .u64 0] 75)).drew = W3 from HW3.out.1, HW3.out.2]
      refine hK.out _ _ (fun _ => HS3.out) ?_
      clear hK K
      try simp only [Act.put, List.getElem_toArray, List.getElem_cons_zero, List.getElem_cons_succ, List.setIfInBounds_toArray, List.set_cons_zero, List.set_cons_succ]
      refine wpU_take (i := 14) (v := ?_) rfl (by kernel_rfl) (by kernel_rfl) (by kernel_rfl) (by kernel_rfl) (fun _ _ _ h => h) (by rfl) ?_ HS3.out ?_
      rotate_left
      · (intro wS hwS; (try dsimp only at hwS); go_simp; try with_reducible rfl)
      simp only [Act.put, List.getElem_toArray, List.getElem_cons_zero, List.getElem_cons_succ, List.setIfInBounds_toArray, List.set_cons_zero, List.set_cons_succ]
      refine wpL_one (i := 15) (by kernel_rfl) rfl (fun K hK => ?_)
      simp only [List.getElem_toArray, List.getElem_cons_zero, List.getElem_cons_succ]
      go_simp
      refine HAD.out.mono ?_
      rintro _ w4 ⟨rfl, vr2, a1, a2, a3, a4, a5⟩
      have HST2 : Hid _ := HST.out w4 vr2 a1 a2 a3 a4 a5
      have hr4 := HR4.out w4 a3
      have HR5 : Hid (w4.ownsRow (X.bN + 1) 9 1 u14 its.length (its.map (fun it => Value.string it.s))) := hr4.1
      have hb4 := hr4.2
      refine hK.out _ _ (fun h => absurd rfl h) ?_
      clear hK K a1 a2 a3 a4 a5 hr4
      refine wpL_done (by kernel_rfl) ?_ _
      obtain ⟨i0, hi0, hz0, hz1, hz2⟩ := info_parts Ybaf.info9
      have HI : Hid (Ybaf.prog.info? 9 = some i0 ∧ i0.zero = some (.string ⟨#[]⟩) ∧ i0.size = 1 ∧ i0.bytes = 16) := ⟨hi0, hz0, hz1, hz2⟩
      have hin : its.length ≤ 7 := by have := HIL.out; omega
      clear hi0 hz0 hz1 hz2
      go_wp2_with (first | (at_builtin; refine wpList_append_lies _ (by rfl) _ _ _ (by rfl) (X.bN + 1) 9 i0 _ 1 16 Ybaf.underlying22 HI.out.1 HI.out.2.1 HI.out.2.2.1 HI.out.2.2.2 rfl (by omega) u14 its.length (its.map (fun it => Value.string it.s)) (by rfl) (HR5.out.alloc _) ⟨w4.heap.size, 0, none⟩ 1 1 [.string f] (by rfl) (by rfl) (World.news_of_block (cs := #[.string f]) (t := 9) (fr := (0, 0)) (heap_alloc_new w4 _)) (by simp [Value.oneCell']) (by omega) (bound_max (by omega)) (by omega) (by rw [World.size_alloc]; omega) (w4.heap.size + 1) (by simp) ?_; intro gg cp w5 hown hgrow hat hlt9; have HP : Hid _ := HST2.out _ w5 gg cp hown hgrow hat; clear hown hgrow hat hlt9))
      go_roundw
      case rel => exact ⟨i + 1, _, vr2, by omega, by go_num, by simp [HIL.out], HP.out⟩
      case measure => simp [intOf]; omega
    · obtain rfl : i = p := by omega
      have HLW : Hid (Lw X Y w its vr u14 0 (i : Int) (wr.setCell ⟨X.bN, 2, none⟩ (.int .u64 (i : Int)))) := hl.taken HO.out HYO.out (i : Int)
      have wi : IntKind.u64.wrap (i : Int) = i := by rw [IntKind.wrap_u64]; omega
      have c2 := cell_in hl.hn.n (o := 2) (u := .int .u64 0) rfl
      have z2 := free_in hl.hn.n (o := 2)
      have HIL : Hid (its.length = i) := hil
      clear hl hil hi hlt
      go_upto_region 17 with (fail)
      obtain ⟨W1, hW1⟩ : ∃ W, W = wr.setCell ⟨X.bN, 2, none⟩ (.int .u64 (i : Int)) := ⟨_, rfl⟩
      have hlw := HLW.out
      rw [← hW1] at hlw ⊢
      have HL1 : Hid (Lw X Y w its vr u14 0 (i : Int) W1) := hlw
      have hb4 : X.bN + 1 ≤ W1.heap.size := lt_of hlw.hn.n
      have hin : its.length ≤ 7 := by have := HIL.out; omega
      obtain ⟨i0, hi0, hz0, hz1, hz2⟩ := info_parts Ybaf.info9
      have HI : Hid (Ybaf.prog.info? 9 = some i0 ∧ i0.zero = some (.string ⟨#[]⟩) ∧ i0.size = 1 ∧ i0.bytes = 16) := ⟨hi0, hz0, hz1, hz2⟩
      clear hW1 hlw HLW c2 z2 hi0 hz0 hz1 hz2
      go_upto_region 18 with (at_builtin; refine wpList_append_lies _ (by rfl) _ _ _ (by rfl) (X.bN + 1) 9 i0 _ 1 16 Ybaf.underlying22 HI.out.1 HI.out.2.1 HI.out.2.2.1 HI.out.2.2.2 rfl (by omega) u14 its.length (its.map (fun it => Value.string it.s)) (by rfl) (HL1.out.row.alloc _) ⟨W1.heap.size, 0, none⟩ 1 1 [.string ⟨#[99]⟩] (by rfl) (by rfl) (World.news_of_block (cs := #[.string ⟨#[99]⟩]) (t := 9) (fr := (0, 0)) (heap_alloc_new W1 _)) (by simp [Value.oneCell']) (by omega) (bound_max (by omega)) (by omega) (by rw [World.size_alloc]; omega) (W1.heap.size + 1) (by simp) ?_; intro gg cp w5 hown hgrow hat hlt9; have HP : Hid (Lz X Y w its vr (.slice (some ⟨gg, 0, none⟩) (its.length + 1) cp) (its.map (fun it => Value.string it.s) ++ [.string ⟨#[99]⟩]) (its.length + 1) 0 (i : Int) w5) := HL1.out.full HYO.out hown hgrow hat; clear hown hgrow hat hlt9)
      have hz := HP.out
      have cF := cell_in hz.hn.hs.hf (o := 0) (u := .slice X.fa X.fl X.fc) rfl
      have HBO : Hid (AtBo X.B w5 X.fa X.fs ∧ X.fs.length = X.fl ∧ X.fl ≤ 9223372036854775807) := ⟨hz.hn.hs.bo, hz.hn.hs.len, HX.out.2.2.2⟩
      obtain ⟨n1, hn1⟩ : ∃ x, its.length + 1 = x := ⟨_, rfl⟩
      have HN1 : Hid (its.length + 1 = n1) := hn1
      rw [hn1]
      clear hz hn1 HI hb4 HL1
      go_wp2
      go_loopw [17, 18] (fun a q wq => ∃ j : Nat, j ≤ i + 1 ∧ q = .int .i64 j ∧ a = .bool (anyB X.fs j) ∧ wq = w5) (fun _ q _ => i + 1 - (intOf q).toNat)
      case atStart => exact ⟨0, Nat.zero_le _, rfl, rfl, rfl⟩
      case round =>
        obtain ⟨j, hj, rfl, rfl, hwq⟩ := hrel
        have hwq' := hwq.symm
        clear hwq
        subst hwq'
        by_cases hlt2 : j < i + 1
        · by_cases hjf : j < X.fl
          · obtain ⟨b, o, hfa, hb, hcell⟩ := HBO.out.1 j (by rw [HBO.out.2.1]; exact hjf)
            have HAS := anyB_succ X.fs j
            have HA2 : Hid (anyB X.fs (j + 1) = (anyB X.fs j || X.fs.getD j false)) := HAS
            clear HAS
            rw [hfa] at cF
            have hle : ((j : Int) ≤ (i : Int)) := by omega
            cases hbb : X.fs.getD j false with
            | false =>
              rw [hbb] at hcell
              have HBB : Hid (X.fs.getD j false = false) := hbb
              clear hbb hfa
              go_wp2
              go_roundw
              case rel => exact ⟨j + 1, by omega, by go_num, by rw [HA2.out, HBB.out, Bool.or_false], trivial⟩
              case measure => simp [intOf]; omega
            | true =>
              rw [hbb] at hcell
              have HBB : Hid (X.fs.getD j false = true) := hbb
              clear hbb hfa
              go_wp2
              go_roundw
              case rel => exact ⟨j + 1, by omega, by go_num, by rw [HA2.out, HBB.out, Bool.or_true], trivial⟩
              case measure => simp [intOf]; omega
          · have HA2 : Hid (anyB X.fs (j + 1) = anyB X.fs j) := by
              show _ = _
              rw [anyB_succ]
              have : X.fs.getD j false = false := by
                simp [List.getD]
                rw [List.getElem?_eq_none (by rw [HBO.out.2.1]; omega)]
                rfl
              rw [this, Bool.or_false]
            have hle : ((j : Int) ≤ (i : Int)) := by omega
            go_wp2
            go_roundw
            case rel => exact ⟨j + 1, by omega, by go_num, by rw [HA2.out], trivial⟩
            case measure => simp [intOf]; omega
        · obtain rfl : j = i + 1 := by omega
          have hgt : ¬ (((i + 1 : Nat) : Int) ≤ (i : Int)) := by omega
          have wi1 : IntKind.u64.wrap ((i : Int) + 1) = (i : Int) + 1 := by rw [IntKind.wrap_u64]; omega
          obtain ⟨pc, hpc⟩ : ∃ x, w5.heap.size = x := ⟨_, rfl⟩
          obtain ⟨W6, hW6⟩ : ∃ W, W = w5.alloc (.cells (pendArr (id : Int) ⟨#[99]⟩ ⟨#[98]⟩ ((i : Int) + 1)) 75) := ⟨_, rfl⟩
          have hs6 : Stay (fun _ => False) w5 W6 := by rw [hW6]; exact Stay.alloc _ _ _
          have hp6 : W6.heap[pc]? = some (.cells (pendArr (id : Int) ⟨#[99]⟩ ⟨#[98]⟩ ((i : Int) + 1)) 75 (0, 0)) := by rw [hW6, ← hpc]; exact heap_alloc_new w5 _
          have hz5 := HP.out
          have hz6 := hz5.idle hs6
          have k0 := cell_in hz5.hk (o := 0) (u := .int .i64 0) rfl
          have k1 := cell_in hz5.hk (o := 1) (u := .int .i64 1) rfl
          have cM := cell_in hz6.hn.m (o := 4) (u := .int .i32 0) rfl
          have zM := free_in hz6.hn.m (o := 4)
          obtain ⟨W7, hW7⟩ : ∃ W, W = W6.setCell ⟨X.bM, 4, none⟩ (.int .i32 1) := ⟨_, rfl⟩
          have HLK : Hid (Calls Ybaf.prog 16 #[.pointer (some ⟨X.bM, 4, none⟩)] W6 fun e w' => e = .returned (.tuple #[]) ∧ w' = W7) := by
            have := lock_free Ybaf.muLib ⟨X.bM, 4, none⟩ W6 cM zM
            rw [← hW7] at this
            exact this
          have hz7 := hz6.lock HO.out HYO.out 1
          rw [← hW7] at hz7
          have hs7 : Stay (fun b => b = X.bM) W6 W7 := by rw [hW7]; exact Stay.set _ _ _ _ rfl
          have b1 := lt_of hz5.hn.hs.hk; have b2 := lt_of hz5.hn.hs.hl; have b3 := lt_of hz5.hn.m; have b4 := lt_of hz5.hn.n
          have hC : Pend X ⟨pc, (id : Int), ⟨#[99]⟩, ⟨#[98]⟩, (i : Int) + 1⟩ vr (.slice none 0 0) W7 :=
            ⟨hs7.at_ hp6 (show ¬ pc = X.bM by omega), show pc ≠ X.bK by omega, show pc ≠ X.bL by omega, show pc ≠ X.bM by omega, show pc ≠ X.bN by omega, fun e => by have h9 := (hz5.qd.row.lt pc e).2; omega, nil_ne _⟩
          have HOV : Hid (Calls Ybaf.prog 17 #[.pointer (some ⟨X.bM, 0, none⟩), .pointer (some ⟨pc, 0, none⟩)] W7 fun e w' => ∃ v, e = .returned v ∧
              (∃ vlog' vr' gr o cap, Overed X ((i : Int) + 1) (its ++ [⟨pc, (id : Int), ⟨#[99]⟩, ⟨#[98]⟩, (i : Int) + 1⟩]) 0 vr (.slice none 0 0) [] W7 w' vlog' vr' gr o cap) ∧ (anyB X.fs (i + 1) = false ∧ v = .nilIface ∨ anyB X.fs (i + 1) = true ∧ ∃ a, v = .iface 161 (.pointer (some a)))) := by
            have h9 := over_any F X HO.out Y.bP Y.r Y.b Y.c i 0 its ⟨pc, (id : Int), ⟨#[99]⟩, ⟨#[98]⟩, (i : Int) + 1⟩ vr (.slice none 0 0) [] W7 (by rw [hz7.bel.tape]; exact HX.out.1) hz7.hn HXP.out.1 HXP.out.2.1 hz7.hP hz7.hr hz7.qd hC (by have := HIL.out; omega) (by omega)
            refine h9.mono ?_
            rintro e w' ⟨h1, h2⟩
            rw [HIL.out] at h2
            simp only [Nat.zero_add] at h2
            rcases h2 with ⟨s1, rfl⟩ | ⟨⟨t, ht, s1⟩, a, rfl⟩
            · refine ⟨_, rfl, h1, .inl ⟨?_, rfl⟩⟩
              simp only [anyB, List.any_eq_false, List.mem_range]
              intro t ht
              rw [s1 t ht]
              decide
            · refine ⟨_, rfl, h1, .inr ⟨?_, a, rfl⟩⟩
              simp only [anyB, List.any_eq_true, List.mem_range]
              exact ⟨t, ht, s1⟩
          have HZ7 : Hid (Lz X Y w its vr (.slice (some ⟨gg, 0, none⟩) (its.length + 1) cp) (its.map (fun it => Value.string it.s) ++ [.string ⟨#[99]⟩]) (its.length + 1) 1 (i : Int) W7) := hz7
          have HW6 : Hid (w5.alloc (.cells (pendArr (id : Int) ⟨#[99]⟩ ⟨#[98]⟩ ((i : Int) + 1)) 75) = W6 ∧ w5.heap.size = pc) := ⟨hW6.symm, hpc⟩
          clear hpc hW6 hs6 hp6 hz5 hz6 cM zM hW7 hz7 hs7 b1 b2 b3 b4 hC cF
          go_upto_region 25 with (fail)
          rw [show w5.alloc (.cells #[.int .u64 (id : Int), .string ⟨#[99]⟩, .string ⟨#[98]⟩, .slice none 0 0, .int .i64 0, .int .i64 1, .int .u64 ((i : Int) + 1), .int .u64 0] 75) = W6 from HW6.out.1, HW6.out.2]
          clear k0 k1
          go_upto_region 27 with (first | (go_at_call 16; refine HLK.out.mono ?_; rintro _ wx ⟨rfl, hwx⟩; rw [hwx]; clear hwx wx) | (go_at_call 17; refine HOV.out.mono ?_; rintro _ w9 ⟨v9, rfl, ov9, ev9⟩; have HOE : Hid (∃ vlog' vr' gr o cap, Overed X ((i : Int) + 1) (its ++ [⟨pc, (id : Int), ⟨#[99]⟩, ⟨#[98]⟩, (i : Int) + 1⟩]) 0 vr (.slice none 0 0) [] W7 w9 vlog' vr' gr o cap) := ov9; have HEV : Hid (anyB X.fs (i + 1) = false ∧ v9 = .nilIface ∨ anyB X.fs (i + 1) = true ∧ ∃ a, v9 = .iface 161 (.pointer (some a))) := ev9; clear ov9 ev9))
          obtain ⟨vlog', vr', gr, o, cap, hov⟩ := HOE.out
          obtain ⟨xs, hxs⟩ : ∃ xs, xs = (its ++ [(⟨pc, (id : Int), ⟨#[99]⟩, ⟨#[98]⟩, (i : Int) + 1⟩ : Item)]).map (fun it => it.s) := ⟨_, rfl⟩
          have hxl : xs.length = n1 := by rw [hxs, ← HN1.out]; simp
          have hn9 : Hn X 0 ((i : Int) + 1) vr' false n1 vlog' (xs.map Value.string) w9 := by
            have h9 := hov.hn
            have e1 : 0 + (its ++ [(⟨pc, (id : Int), ⟨#[99]⟩, ⟨#[98]⟩, (i : Int) + 1⟩ : Item)]).length = n1 := by rw [← HN1.out]; simp
            have e2 : ([] : List Value) ++ (its ++ [(⟨pc, (id : Int), ⟨#[99]⟩, ⟨#[98]⟩, (i : Int) + 1⟩ : Item)]).map (fun it => Value.string it.s) = xs.map Value.string := by rw [hxs]; simp
            rw [e1, e2] at h9
            exact h9
          have hn1p : 0 < n1 := by have := HN1.out; omega
          have hn18 : n1 ≤ 8 := by have h1 := HN1.out; have h2 := HIL.out; omega
          obtain ⟨gl, cl, hvl, _, hgl⟩ := hn9.hs.row.form hn1p
          have hwr : w9.ownsRow (X.bN + 1) 9 1 (.slice (some ⟨gg, 0, none⟩) n1 cp) n1 (xs.map Value.string) := by
            have h1 := HZ7.out.row
            rw [HN1.out] at h1
            have e2 : its.map (fun it => Value.string it.s) ++ [Value.string ⟨#[99]⟩] = xs.map Value.string := by rw [hxs]; simp
            rw [e2] at h1
            refine hov.st.row h1 (fun g hg e => ?_)
            have h2 := (h1.lt g hg).1
            have c4 := HYO.out.K; have c5 := HYO.out.L; have c7 := HYO.out.M
            rcases e with ((e | e | e) | e) | e | e
            · omega
            · omega
            · exact nil_ne _ e
            · omega
            · omega
            · exact HZ7.out.wv g (by have h3 := hg; exact h3) e
          have hc1 : ∀ j, j < xs.length → w9.cell? ⟨gl, 0 + j, none⟩ = some (.string (xs.getD j ByteArray.empty)) := fun j hj => by
            have h1 := hn9.hs.row.cells (g := gl) (by rw [hvl]; rfl) j (.string (xs.getD j ByteArray.empty)) (by simp [hj])
            rw [Addr.add_lit] at h1
            exact h1
          have hc2 : ∀ j, j < xs.length → w9.cell? ⟨gg, 0 + j, none⟩ = some (.string (xs.getD j ByteArray.empty)) := fun j hj => by
            have h1 := hwr.cells (g := gg) rfl j (.string (xs.getD j ByteArray.empty)) (by simp [hj])
            rw [Addr.add_lit] at h1
            exact h1
          have HEQ : Hid (Calls Ybaf.prog 26 #[.slice (some ⟨gl, 0, none⟩) n1 cl, .slice (some ⟨gg, 0, none⟩) n1 cp] w9 fun e w' => e = .returned (.bool true) ∧ Stay (fun _ => False) w9 w') := by
            refine (Ybaf.slices_Equal_string gl 0 n1 cl gg 0 n1 cp xs xs w9 (by omega) (by omega) (by omega) (by omega) hc1 hc2).mono ?_
            rintro e w' ⟨rfl, q, rfl⟩
            exact ⟨by simp, (Stay.refl _ _).drewN q⟩
          have cl9 : w9.cell? ⟨X.bL, 0, none⟩ = some (.slice (some ⟨gl, 0, none⟩) n1 cl) := by rw [← hvl]; exact cell_in hn9.hs.hl (o := 0) rfl
          obtain ⟨bb, hbb⟩ : ∃ x, anyB X.fs (i + 1) = x := ⟨_, rfl⟩
          have hneq : ∀ W : World, (binOp .neq 39 v9 .nilIface).run Ybaf.prog W = .ok (.bool bb) W := fun W => by
            rcases HEV.out with ⟨e1, e2⟩ | ⟨e1, a, e2⟩
            · rw [e2, ← hbb, e1]; kernel_rfl
            · rw [e2, ← hbb, e1]; kernel_rfl
          have heg : ∀ W : World, (eqGuard .neq 39 (.tmp 111) (.const .nilIface) v9 .nilIface).run Ybaf.prog W = .ok () W := fun W => by
            rcases HEV.out with ⟨e1, e2⟩ | ⟨e1, a, e2⟩
            · rw [e2]; kernel_rfl
            · rw [e2]; kernel_rfl
          have hb2 : (bb != bb) = false := by simp
          have H9 : Hid (Hn X 0 ((i : Int) + 1) vr' false n1 vlog' (xs.map Value.string) w9 ∧ Rdy X gr o cap [] vr' w9 ∧ vlog'.ownBlock ≠ some gr ∧ vlog' = .slice (some ⟨gl, 0, none⟩) n1 cl) := ⟨hn9, hov.rd, hov.vg, hvl⟩
          have HBE : Hid (Below w.heap.size w w9) := below_stay HZ7.out.bel hov.st (fun b hb e => by
            have c8 := HYO.out.B; have c1 := HO.out.BM; have c2 := HO.out.BN; have c3 := HZ7.out.hn.hs.BK; have c4 := HZ7.out.hn.hs.BL
            rcases e with ((e | e | e) | e) | e | e
            · omega
            · omega
            · exact nil_ne _ e
            · omega
            · omega
            · have := (HZ7.out.qd.row.lt _ e).1; omega)
          rw [hbb]
          clear hov hxs hxl hn9 hvl hgl hwr hc1 hc2 hbb HOE HEV HOV HLK HZ7 HW6 HP HBO
          go_upto_region 29 with (go_at_call 26; refine HEQ.out.mono ?_; rintro _ wa ⟨rfl, hsa⟩; have HSA : Hid (Stay (fun _ => False) w9 wa) := hsa; clear hsa)
          have hna := H9.out.1.idle HSA.out
          have hra := H9.out.2.1.stay HSA.out (fun e => e) (fun _ _ e => e)
          have c2 := cell_in hna.n (o := 2) (u := .int .u64 ((i : Int) + 1)) rfl
          have c3 := cell_in hna.n (o := 3) (u := .int .i64 0) rfl
          have c11 := cell_in hna.m (o := 11) (u := .slice none 0 0) rfl
          have cM := cell_in hna.m (o := 4) (u := .int .i32 0) rfl
          have zM := free_in hna.m (o := 4)
          obtain ⟨WT, hWT⟩ : ∃ W, W = wa.setCell ⟨X.bM, 4, none⟩ (.int .i32 1) := ⟨_, rfl⟩
          have HTR : Hid (Calls Ybaf.prog 18 #[.pointer (some ⟨X.bM, 4, none⟩)] wa fun e w' => e = .returned (.bool true) ∧ w' = WT) := by
            have := try_free ⟨X.bM, 4, none⟩ wa cM zM
            rw [← hWT] at this
            exact this
          have hnt := hna.lock HO.out 1
          rw [← hWT] at hnt
          have cT := cell_in hnt.m (o := 4) (u := .int .i32 1) rfl
          have zT := free_in hnt.m (o := 4)
          obtain ⟨WU, hWU⟩ : ∃ W, W = WT.setCell ⟨X.bM, 4, none⟩ (.int .i32 0) := ⟨_, rfl⟩
          have HUL : Hid (Calls Ybaf.prog 19 #[.pointer (some ⟨X.bM, 4, none⟩)] WT fun e w' => e = .returned (.tuple #[]) ∧ w' = WU) := by
            have := unlock_held Ybaf.muLib ⟨X.bM, 4, none⟩ WT cT zT
            rw [← hWU] at this
            exact this
          have hnu := hnt.lock HO.out 0
          rw [← hWU] at hnu
          have sT : Stay (fun b => b = X.bM) wa WT := by rw [hWT]; exact Stay.set _ _ _ _ rfl
          have sU : Stay (fun b => b = X.bM) WT WU := by rw [hWU]; exact Stay.set _ _ _ _ rfl
          have hru := (hra.stay sT hra.gM (fun it hit => (by cases hit))).stay sU hra.gM (fun it hit => (by cases hit))
          have hbu : Below w.heap.size w WU := below_stay (below_stay (below_stay HBE.out HSA.out (fun _ _ e => e)) sT (fun b hb e => by have := HYO.out.B; have := HO.out.BM; omega)) sU (fun b hb e => by have := HYO.out.B; have := HO.out.BM; omega)
          have clU : WU.cell? ⟨X.bL, 0, none⟩ = some (.slice (some ⟨gl, 0, none⟩) n1 cl) := by rw [← H9.out.2.2.2]; exact cell_in hnu.hs.hl (o := 0) rfl
          have HRN : Hid (Calls Ybaf.prog 27 #[.pointer (some ⟨X.bN, 5, none⟩)] WU fun e w' => e = .returned .nilIface ∧ (∃ a c, w'.cell? ⟨X.bL, 0, none⟩ = some (.slice a n1 c)) ∧ Below w.heap.size w w') := by
            refine (run_any F X HO.out gr o cap [] ((i : Int) + 1) vr' n1 vlog' (xs.map Value.string) WU (by rw [hbu.tape]; exact HX.out.1) hnu hru (by simp; omega) H9.out.2.2.1 (fun it hit => (by cases hit))).mono ?_
            rintro e w' ⟨⟨vl, vr2, r1, r2, r3⟩, r4, r5⟩
            refine ⟨?_, ?_, ?_⟩
            · rcases r5 with ⟨_, e1⟩ | ⟨⟨j, hj, _⟩, _⟩
              · exact e1
              · simp at hj
            · have h1 := r1.hs.row.form (by simp; omega)
              obtain ⟨g9, c9, h2, _⟩ := h1
              refine ⟨some ⟨g9, 0, none⟩, c9, ?_⟩
              have h3 := cell_in r1.hs.hl (o := 0) (u := vl) rfl
              rw [h2] at h3
              simpa using h3
            · refine below_stay hbu r4 (fun b hb e => ?_)
              have c8 := HYO.out.B; have c1 := HO.out.BM; have c2 := HO.out.BN; have c3 := hnu.hs.BK; have c4 := hnu.hs.BL
              rcases e with ((e | e | e) | e) | e | e
              · omega
              · omega
              · have := (hnu.hs.row.lt _ e).1; omega
              · omega
              · omega
              · have := hru.gB; omega
          clear hna hra cM zM hWT hnt cT zT hWU hnu sT sU hru hbu
          go_upto_region 33 with (fail)
          clear c2 c3 c11
          go_wp2_with (first | (go_at_call 18; refine HTR.out.mono ?_; rintro _ wx ⟨rfl, hwx⟩; rw [hwx]; clear hwx wx) | (go_at_call 19; refine HUL.out.mono ?_; rintro _ wx ⟨rfl, hwx⟩; rw [hwx]; clear hwx wx) | (go_at_call 27; refine HRN.out.mono ?_; rintro _ wz ⟨rfl, ⟨az, cz, hcz⟩, hbz⟩; have HBZ : Hid (Below w.heap.size w wz) := hbz; clear hbz))
          go_ret
          refine ⟨?_, HBZ.out⟩
          simp
end Go.Proofs.YbulkcoecFmt
