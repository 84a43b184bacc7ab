import Derived.Test.YbulkcoecFmtHOver
import Derived.Test.YbulkcoecFmtHLane
import Derived.Test.YbulkcoecFmtHEqual
import Derived.Test.YbulkcoecFmtHPlain
namespace Go.Proofs.YbulkcoecFmt
open Go.RowKit Go.Deep
set_option linter.unusedVariables false
set_option linter.unusedSimpArgs false

/-- Numbers at a. -/
def AtIn (B : Nat) (w : World) (a : Option Addr) (xs : List Int) : Prop := ∀ j, j < xs.length → ∃ b o, a = some ⟨b, o, none⟩ ∧ b < B ∧ w.cell? ⟨b, o + j, none⟩ = some (.int .u64 (xs.getD j 0))

theorem own_at {B n : Nat} {e : TypeId} {v : Value} {xs : List Value} {w : World} (h : w.ownsRow B e 1 v n xs) {g : Nat} (hg : v.ownBlock = some g) : B ≤ g ∧ ∃ cur, w.heap[g]? = some (.cells cur e (0, 0)) := by
  rcases h.2 with ⟨rfl, _⟩ | ⟨g', cap, cur, rfl, hB, hat, _⟩
  · cases hg
  · simp only [Value.ownBlock, Option.some.injEq] at hg
    subst hg
    exact ⟨hB, cur, hat⟩

theorem own_base {B B' n : Nat} {e : TypeId} {v : Value} {xs : List Value} {w : World} (h : w.ownsRow B' e 1 v n xs) (hle : B ≤ B') : w.ownsRow B e 1 v n xs := by
  refine ⟨h.1, ?_⟩
  rcases h.2 with h0 | ⟨g, cap, cur, hv, hB, rest⟩
  · exact .inl h0
  · exact .inr ⟨g, cap, cur, hv, Nat.le_trans hle hB, rest⟩

/-- A row of pointers, whether nil or not. -/
theorem Row.any {B : Nat} {v : Value} {l : List Nat} {w : World} (h : Row B v l w) : ∃ a cap, v = .slice a l.length cap ∧ ∀ t, t < l.length → ∃ g, a = some ⟨g, 0, none⟩ ∧ w.cell? ⟨g, t, none⟩ = some (ptr l[t]!) := by
  rcases h.parts with ⟨rfl, rfl⟩ | ⟨g, cap, cur, rfl, hr⟩
  · exact ⟨none, 0, rfl, fun t ht => by simp at ht⟩
  · exact ⟨some ⟨g, 0, none⟩, cap, rfl, fun t ht => ⟨g, rfl, hr.cell t ht⟩⟩

/-- The places of the law. -/
structure Lb where
  B : Nat
  bM : Nat
  r : Nat
  n1 : Nat
  n2 : Nat
  bP : Nat
  ko : Nat
  kt : Nat

def Lb.vpr (Y : Lb) : Value := .slice (some ⟨Y.bP, 0, none⟩) 3 3

/-- What stands while the copies are laid. -/
structure Bw (Y : Lb) (I : Li) (w : World) (i : Nat) (bs : List Nat) (vf wh : Value) (hs : List Int) (wf : Value) (fs : List Int) (wr : World) : Prop where
  m : wr.heap[Y.bM]? = some (.cells (memA 0 I.keep Y.vpr vf (.slice none 0 0) (.map (some Y.r))) 66 (0, 0))
  mp : wr.heap[Y.r]? = some (.map #[⟨.agg #[.int .i64 0, .int .i64 1], ptr Y.n1, 0⟩, ⟨.agg #[.int .i64 0, .int .i64 2], ptr Y.n2, 1⟩] 2)
  l1 : wr.heap[Y.n1]? = some (.cells (laneA Y.bM 0) 86 (0, 0))
  l2 : wr.heap[Y.n2]? = some (.cells (laneA Y.bM 0) 86 (0, 0))
  n12 : Y.n1 ≠ Y.n2
  hP : wr.heap[Y.bP]? = some (.cells #[.nilFunc, .int .i64 0, .bool false, .nilFunc, .int .i64 0, .bool false, .nilFunc, .int .i64 0, .bool false] 92 (0, 0))
  ko : wr.heap[Y.ko]? = some (.cells #[.int .i64 0, .int .i64 1] 68 (0, 0))
  kt : wr.heap[Y.kt]? = some (.cells #[.int .i64 0, .int .i64 2] 68 (0, 0))
  fr : Row Y.B vf bs wr
  len : bs.length = i
  pd : ∀ t, t < i → ∃ tt sq du, wr.heap[bs[t]!]? = some (.cells (pendA (I.ids t) tt (lk (I.own t)) sq du) 75 (0, 0))
  rh : wr.ownsRow Y.B 26 1 wh hs.length (hs.map (Value.int .u64))
  rf : wr.ownsRow Y.B 26 1 wf fs.length (fs.map (Value.int .u64))
  ap : ∀ g, wh.ownBlock = some g → wf.ownBlock ≠ some g
  bel : Below w.heap.size w wr
  hB : Y.B = w.heap.size
  bM : Y.B ≤ Y.bM
  n1 : Y.B ≤ Y.n1

theorem below_of {w wr w2 : World} {S : Nat → Prop} (h : Below w.heap.size w wr) (hs : Stay S wr w2) (hn : ∀ b, b < w.heap.size → ¬ S b) : Below w.heap.size w w2 :=
  ⟨hs.os.trans h.os, hs.tape.trans h.tape, hs.output.trans h.output, Nat.le_trans h.size hs.size, fun k hk => (hs.block k (Nat.lt_of_lt_of_le hk h.size) (hn k hk)).trans (h.block k hk)⟩

section
variable {Y : Lb} {I : Li} {w : World} {i : Nat} {bs : List Nat} {vf wh wf : Value} {hs fs : List Int} {wr w2 : World}

theorem Bw.stay_ {S : Nat → Prop} (h : Bw Y I w i bs vf wh hs wf fs wr) (st : Stay S wr w2) (h66 : ∀ g c, wr.heap[g]? = some (.cells c 66 (0, 0)) → ¬ S g) (hmp : ¬ S Y.r) (h86 : ∀ g c, wr.heap[g]? = some (.cells c 86 (0, 0)) → ¬ S g) (h92 : ∀ g c, wr.heap[g]? = some (.cells c 92 (0, 0)) → ¬ S g) (h68 : ∀ g c, wr.heap[g]? = some (.cells c 68 (0, 0)) → ¬ S g)
    (h71 : ∀ g c, wr.heap[g]? = some (.cells c 71 (0, 0)) → ¬ S g) (h75 : ∀ g c, wr.heap[g]? = some (.cells c 75 (0, 0)) → ¬ S g) (hh : ∀ g, wh.ownBlock = some g → ¬ S g) (hf : ∀ g, wf.ownBlock = some g → ¬ S g) (hlow : ∀ g, g < w.heap.size → ¬ S g) : Bw Y I w i bs vf wh hs wf fs w2 :=
  ⟨st.at_ h.m (h66 _ _ h.m), st.at_ h.mp hmp, st.at_ h.l1 (h86 _ _ h.l1), st.at_ h.l2 (h86 _ _ h.l2), h.n12, st.at_ h.hP (h92 _ _ h.hP), st.at_ h.ko (h68 _ _ h.ko), st.at_ h.kt (h68 _ _ h.kt), h.fr.stay st (fun g hg => by
    obtain ⟨cur, e⟩ := h.fr.block hg
    exact h71 _ _ e), h.len, fun t ht => by
    obtain ⟨tt, sq, du, e⟩ := h.pd t ht
    exact ⟨tt, sq, du, st.at_ e (h75 _ _ e)⟩, st.row h.rh hh, st.row h.rf hf, h.ap, below_of h.bel st hlow, h.hB, h.bM, h.n1⟩

theorem Bw.idle (h : Bw Y I w i bs vf wh hs wf fs wr) (st : Stay (fun _ => False) wr w2) : Bw Y I w i bs vf wh hs wf fs w2 :=
  h.stay_ st (fun _ _ _ e => e) (fun e => e) (fun _ _ _ e => e) (fun _ _ _ e => e) (fun _ _ _ e => e) (fun _ _ _ e => e) (fun _ _ _ e => e) (fun _ _ e => e) (fun _ _ e => e) (fun _ _ e => e)

/-- One more copy in flight. -/
theorem Bw.fly (h : Bw Y I w i bs vf wh hs wf fs wr) {pb : Nat} (hp : ∃ tt sq du, wr.heap[pb]? = some (.cells (pendA (I.ids i) tt (lk (I.own i)) sq du) 75 (0, 0))) {w4 : World} {vf' : Value} (st : Stay (fun b => vf.ownBlock = some b) wr w4) (row : Row Y.B vf' (bs ++ [pb]) w4) :
    Bw Y I w (i + 1) (bs ++ [pb]) vf' wh hs wf fs (w4.setCell ⟨Y.bM, 10, none⟩ vf') := by
  have hvf : ∀ {g : Nat}, vf.ownBlock = some g → ∃ cur, wr.heap[g]? = some (.cells cur 71 (0, 0)) := fun hg => h.fr.block hg
  have st2 : Stay (fun x => x = Y.bM) w4 (w4.setCell ⟨Y.bM, 10, none⟩ vf') := Stay.set _ _ _ _ rfl
  have ne : ∀ {g : Nat} {c : Array Value} {s : TypeId}, wr.heap[g]? = some (.cells c s (0, 0)) → s ≠ 71 → ¬ vf.ownBlock = some g := fun hg hs e => by
    obtain ⟨cur, e2⟩ := hvf e
    exact other_of hg e2 hs rfl
  have hM4 := st.at_ h.m (ne h.m (by decide))
  have go : ∀ {g : Nat} {c : Array Value} {s : TypeId}, wr.heap[g]? = some (.cells c s (0, 0)) → s ≠ 71 → s ≠ 66 → (w4.setCell ⟨Y.bM, 10, none⟩ vf').heap[g]? = some (.cells c s (0, 0)) := fun hg h71 h66 =>
    st2.at_ (st.at_ hg (ne hg h71)) (other_of hg h.m h66)
  have rowN : ∀ {v : Value} {n : Nat} {xs : List Value}, wr.ownsRow Y.B 26 1 v n xs → (w4.setCell ⟨Y.bM, 10, none⟩ vf').ownsRow Y.B 26 1 v n xs := fun hr =>
    st2.row (st.row hr (fun g hg => by obtain ⟨_, cur, e⟩ := own_at hr hg; exact ne e (by decide))) (fun g hg => by obtain ⟨_, cur, e⟩ := own_at hr hg; exact other_of e h.m (by decide))
  have hlen : (bs ++ [pb]).length = i + 1 := by simp [h.len]
  refine ⟨?_, st2.at_ (st.at_ h.mp (fun e => by obtain ⟨cur, e2⟩ := hvf e; exact other_map e2 h.mp rfl)) (other_map h.m h.mp).symm, go h.l1 (by decide) (by decide), go h.l2 (by decide) (by decide), h.n12, go h.hP (by decide) (by decide), go h.ko (by decide) (by decide), go h.kt (by decide) (by decide), ?_, hlen, ?_, rowN h.rh, rowN h.rf, h.ap, ?_, h.hB, h.bM, h.n1⟩
  · rw [heap_setCell_same w4 Y.bM 10 _ 66 _ hM4]; rfl
  · refine row.stay st2 (fun g hg e => ?_)
    obtain ⟨cur, e3⟩ := row.block hg
    exact other_of e3 hM4 (by decide) e
  · intro t ht
    by_cases hti : t < i
    · obtain ⟨tt, sq, du, e⟩ := h.pd t hti
      have e5 : (bs ++ [pb])[t]! = bs[t]! := by
        rw [getElem!_pos _ t (by omega), getElem!_pos bs t (by rw [h.len]; exact hti), List.getElem_append_left (by rw [h.len]; exact hti)]
      rw [e5]
      exact ⟨tt, sq, du, go e (by decide) (by decide)⟩
    · obtain rfl : t = i := by omega
      obtain ⟨tt, sq, du, e⟩ := hp
      have e5 : (bs ++ [pb])[t]! = pb := by
        rw [getElem!_pos _ t (by omega)]
        simp [List.getElem_append_right, h.len]
      rw [e5]
      exact ⟨tt, sq, du, go e (by decide) (by decide)⟩
  · refine below_of (below_of h.bel st (fun b hb e => ?_)) st2 (fun b hb e => ?_)
    · have h1 := (h.fr : wr.ownsRow Y.B 71 1 vf bs.length (bs.map ptr)).lt b e
      have := h.hB
      omega
    · have := h.hB; have := h.bM; omega

theorem Bw.ne26 (h : Bw Y I w i bs vf wh hs wf fs wr) {v : Value} {n : Nat} {xs : List Value} (hr : wr.ownsRow Y.B 26 1 v n xs) : ∀ {g : Nat} {c : Array Value} {s : TypeId}, wr.heap[g]? = some (.cells c s (0, 0)) → s ≠ 26 → ¬ v.ownBlock = some g := fun hg hs e => by
  obtain ⟨_, cur, e2⟩ := own_at hr e
  exact other_of hg e2 hs rfl

/-- Only a row of numbers has moved. -/
theorem Bw.moved (h : Bw Y I w i bs vf wh hs wf fs wr) {v : Value} {n : Nat} {xs : List Value} (hr : wr.ownsRow Y.B 26 1 v n xs) (st : Stay (fun b => v.ownBlock = some b) wr w2) {wh' : Value} {hs' : List Int} {wf' : Value} {fs' : List Int} (rh : w2.ownsRow Y.B 26 1 wh' hs'.length (hs'.map (Value.int .u64))) (rf : w2.ownsRow Y.B 26 1 wf' fs'.length (fs'.map (Value.int .u64))) (ap : ∀ g, wh'.ownBlock = some g → wf'.ownBlock ≠ some g) : Bw Y I w i bs vf wh' hs' wf' fs' w2 :=
  ⟨st.at_ h.m (h.ne26 hr h.m (by decide)), st.at_ h.mp (fun e => by obtain ⟨_, cur, e2⟩ := own_at hr e; exact other_map e2 h.mp rfl), st.at_ h.l1 (h.ne26 hr h.l1 (by decide)), st.at_ h.l2 (h.ne26 hr h.l2 (by decide)), h.n12, st.at_ h.hP (h.ne26 hr h.hP (by decide)), st.at_ h.ko (h.ne26 hr h.ko (by decide)), st.at_ h.kt (h.ne26 hr h.kt (by decide)), h.fr.stay st (fun g hg => by
    obtain ⟨cur, e⟩ := h.fr.block hg
    exact h.ne26 hr e (by decide)), h.len, fun t ht => by
    obtain ⟨tt, sq, du, e⟩ := h.pd t ht
    exact ⟨tt, sq, du, st.at_ e (h.ne26 hr e (by decide))⟩, rh, rf, ap, below_of h.bel st (fun b hb e => by have h1 := (own_at hr e).1; have := h.hB; omega), h.hB, h.bM, h.n1⟩

/-- One more is to be held. -/
theorem Bw.more1 (h : Bw Y I w i bs vf wh hs wf fs wr) {x : Int} {o : Obj} {gg cap : Nat} (own5 : w2.ownsRow Y.B 26 1 (.slice (some ⟨gg, 0, none⟩) (hs.length + 1) cap) (hs.length + 1) (hs.map (Value.int .u64) ++ [.int .u64 x])) (gr5 : (wr.alloc o).grownBy w2 wh.ownBlock) (at5 : wh.ownBlock = some gg ∨ gg = wr.heap.size + 1) :
    Bw Y I w i bs vf (.slice (some ⟨gg, 0, none⟩) (hs.length + 1) cap) (hs ++ [x]) wf fs w2 := by
  have st : Stay (fun b => wh.ownBlock = some b) wr w2 := (Stay.alloc _ wr o).trans (Stay.grown gr5 (fun g e => e))
  refine h.moved h.rh st (by simpa using own5) (st.row h.rf (fun g hg e => h.ap g e hg)) (fun g hg e => ?_)
  have hgg : gg = g := Option.some.inj hg
  subst hgg
  rcases at5 with e2 | e2
  · exact h.ap _ e2 e
  · obtain ⟨_, cur, e3⟩ := own_at h.rf e
    have := lt_of e3
    omega

/-- One more is to fly on. -/
theorem Bw.more2 (h : Bw Y I w i bs vf wh hs wf fs wr) {x : Int} {o : Obj} {gg cap : Nat} (own5 : w2.ownsRow Y.B 26 1 (.slice (some ⟨gg, 0, none⟩) (fs.length + 1) cap) (fs.length + 1) (fs.map (Value.int .u64) ++ [.int .u64 x])) (gr5 : (wr.alloc o).grownBy w2 wf.ownBlock) (at5 : wf.ownBlock = some gg ∨ gg = wr.heap.size + 1) :
    Bw Y I w i bs vf wh hs (.slice (some ⟨gg, 0, none⟩) (fs.length + 1) cap) (fs ++ [x]) w2 := by
  have st : Stay (fun b => wf.ownBlock = some b) wr w2 := (Stay.alloc _ wr o).trans (Stay.grown gr5 (fun g e => e))
  refine h.moved h.rf st (st.row h.rh (fun g hg e => h.ap g hg e)) (by simpa using own5) (fun g hg e => ?_)
  have hgg : gg = g := Option.some.inj e
  subst hgg
  rcases at5 with e2 | e2
  · exact h.ap _ hg e2
  · obtain ⟨_, cur, e3⟩ := own_at h.rh hg
    have := lt_of e3
    omega
end

/-- What a copy's block says. -/
def idAt (W : World) (b : Nat) : Int := match W.cell? ⟨b, 0, none⟩ with
  | some (.int _ n) => n
  | _ => 0
def ownAt (W : World) (b : Nat) : Bool := match W.cell? ⟨b, 5, none⟩ with
  | some (.int _ n) => n == 1
  | _ => false

theorem idAt_of {W : World} {b : Nat} {id : Int} {tt : ByteArray} {l sq du : Int} (h : W.heap[b]? = some (.cells (pendA id tt l sq du) 75 (0, 0))) : idAt W b = id := by
  have := cell_in h (o := 0) (u := .int .u64 id) rfl
  simp only [idAt, this]
theorem ownAt_of {W : World} {b : Nat} {id : Int} {tt : ByteArray} {o : Bool} {sq du : Int} (h : W.heap[b]? = some (.cells (pendA id tt (lk o) sq du) 75 (0, 0))) : ownAt W b = o := by
  have := cell_in h (o := 5) (u := .int .i64 (lk o)) rfl
  simp only [ownAt, this]
  cases o <;> rfl

def Lb.pc (Y : Lb) (I : Li) (W : World) (bs : List Nat) (pc : Nat) : Pc := ⟨Y.B, Y.bM, Y.r, Y.n1, Y.n2, 0, 1, 2, I.keep, Y.vpr, idAt W, ownAt W, fun b => b ∈ bs ∨ b = pc⟩

theorem Bw.hw {Y : Lb} {I : Li} {w : World} {i : Nat} {bs : List Nat} {vf wh wf : Value} {hs fs : List Int} {wr : World} (h : Bw Y I w i bs vf wh hs wf fs wr) {pc : Nat} {tt : ByteArray} {sq du : Int} (hc : wr.heap[pc]? = some (.cells (pendA I.id tt (lk true) sq du) 75 (0, 0))) :
    Hw (Y.pc I wr bs pc) 0 vf bs (.slice none 0 0) [] 0 wr := by
  refine ⟨h.m, h.mp, h.l1, h.l2, h.n12, h.fr, World.ownsRow_nil _ _ _ _, fun g _ e => (by cases e), fun b hb => ?_, fun b hb => .inl hb, fun b hb => (by cases hb), ?_⟩
  · rcases hb with hb | hb
    · obtain ⟨t, ht, rfl⟩ := List.getElem_of_mem hb
      have ht' : t < i := by rw [← h.len]; exact ht
      obtain ⟨tt, sq, du, e⟩ := h.pd t ht'
      rw [getElem!_pos bs t ht] at e
      refine ⟨tt, sq, du, ?_⟩
      show wr.heap[bs[t]]? = some (.cells (pendA (idAt wr bs[t]) tt (lk (ownAt wr bs[t])) sq du) 75 (0, 0))
      rw [idAt_of e, ownAt_of e]
      exact e
    · subst hb
      refine ⟨tt, sq, du, ?_⟩
      show wr.heap[b]? = some (.cells (pendA (idAt wr b) tt (lk (ownAt wr b)) sq du) 75 (0, 0))
      rw [idAt_of hc, ownAt_of hc]
      exact hc
  · show Y.B ≤ wr.heap.size
    have := h.bM; have := lt_of h.m; omega

/-- What stands behind handOver. -/
structure Ew (Y : Lb) (I : Li) (w : World) (n : Nat) (X : Pc) (vf : Value) (fl : List Nat) (vh : Value) (hl : List Nat) (wh : Value) (hs : List Int) (wf : Value) (fs : List Int) (wr : World) : Prop where
  hw : Hw X 0 vf fl vh hl (I.wh n).length wr
  rh : wr.ownsRow Y.B 26 1 wh (I.wh n).length (hs.map (Value.int .u64))
  rf : wr.ownsRow Y.B 26 1 wf (I.wf n).length (fs.map (Value.int .u64))
  ap : ∀ g, wh.ownBlock = some g → wf.ownBlock ≠ some g
  bel : Below w.heap.size w wr
  hB : Y.B = w.heap.size
  M : X.bM = Y.bM
  N1 : X.n1 = Y.n1
  N2 : X.n2 = Y.n2
  eh : srt (I.wh n) = hl.map X.idf
  ef : srt (fl.map X.idf) = srt (I.wf n)

theorem Ew.idle {Y : Lb} {I : Li} {w : World} {n : Nat} {X : Pc} {vf : Value} {fl : List Nat} {vh : Value} {hl : List Nat} {wh : Value} {hs : List Int} {wf : Value} {fs : List Int} {wr w2 : World} (h : Ew Y I w n X vf fl vh hl wh hs wf fs wr) (st : Stay (fun _ => False) wr w2) : Ew Y I w n X vf fl vh hl wh hs wf fs w2 :=
  ⟨h.hw.idle st, st.row h.rh (fun _ _ e => e), st.row h.rf (fun _ _ e => e), h.ap, below_of h.bel st (fun _ _ e => e), h.hB, h.M, h.N1, h.N2, h.eh, h.ef⟩

/-- The lock's word. -/
theorem Ew.lock {Y : Lb} {I : Li} {w : World} {n : Nat} {X : Pc} {vf : Value} {fl : List Nat} {vh : Value} {hl : List Nat} {wh : Value} {hs : List Int} {wf : Value} {fs : List Int} {wr : World} (h : Ew Y I w n X vf fl vh hl wh hs wf fs wr) (hM : Y.B ≤ Y.bM) : Ew Y I w n X vf fl vh hl wh hs wf fs ((wr.setCell ⟨X.bM, 4, none⟩ (.int .i32 1)).setCell ⟨X.bM, 4, none⟩ (.int .i32 0)) := by
  have st1 : Stay (fun b => b = X.bM) wr (wr.setCell ⟨X.bM, 4, none⟩ (.int .i32 1)) := Stay.set _ _ _ _ rfl
  have st2 : Stay (fun b => b = X.bM) (wr.setCell ⟨X.bM, 4, none⟩ (.int .i32 1)) ((wr.setCell ⟨X.bM, 4, none⟩ (.int .i32 1)).setCell ⟨X.bM, 4, none⟩ (.int .i32 0)) := Stay.set _ _ _ _ rfl
  have st := st1.trans st2
  have ne : ∀ {v : Value} {k : Nat} {xs : List Value}, wr.ownsRow Y.B 26 1 v k xs → ∀ g, v.ownBlock = some g → ¬ g = X.bM := fun hr g hg => by
    obtain ⟨_, cur, e⟩ := own_at hr hg
    exact other_of e h.hw.m (by decide)
  exact ⟨(h.hw.lock 1).lock 0, st.row h.rh (ne h.rh), st.row h.rf (ne h.rf), h.ap, below_of h.bel st (fun b hb e => by have := h.hB; have := h.M; omega), h.hB, h.M, h.N1, h.N2, h.eh, h.ef⟩

/-- A row of numbers is put in order. -/
theorem Ew.sorted {Y : Lb} {I : Li} {w : World} {n : Nat} {X : Pc} {vf : Value} {fl : List Nat} {vh : Value} {hl : List Nat} {wh : Value} {hs : List Int} {wf : Value} {fs : List Int} {wr w2 : World} (h : Ew Y I w n X vf fl vh hl wh hs wf fs wr) {v : Value} {k : Nat} {xs : List Value} (hr : wr.ownsRow Y.B 26 1 v k xs) (st : Stay (fun b => v.ownBlock = some b) wr w2) {hs' fs' : List Int} (rh : w2.ownsRow Y.B 26 1 wh (I.wh n).length (hs'.map (Value.int .u64))) (rf : w2.ownsRow Y.B 26 1 wf (I.wf n).length (fs'.map (Value.int .u64))) : Ew Y I w n X vf fl vh hl wh hs' wf fs' w2 := by
  have ne : ∀ {g : Nat} {c : Array Value} {s : TypeId}, wr.heap[g]? = some (.cells c s (0, 0)) → s ≠ 26 → ¬ v.ownBlock = some g := fun hg hs e => by
    obtain ⟨_, cur, e2⟩ := own_at hr e
    exact other_of hg e2 hs rfl
  refine ⟨h.hw.keep_ st (ne h.hw.m (by decide)) (fun e => by obtain ⟨_, cur, e2⟩ := own_at hr e; exact other_map e2 h.hw.mp rfl) (ne h.hw.l1 (by decide)) (ne h.hw.l2 (by decide)) (fun g hg => by obtain ⟨cur, e⟩ := h.hw.fr.block hg; exact ne e (by decide)) (fun g hg => by obtain ⟨cur, e⟩ := h.hw.hr.block hg; exact ne e (by decide)) (fun b hb => by obtain ⟨tt, sq, du, e⟩ := h.hw.pd b hb; exact ne e (by decide)), rh, rf, h.ap, below_of h.bel st (fun b hb e => by have h1 := (own_at hr e).1; have := h.hB; omega), h.hB, h.M, h.N1, h.N2, h.eh, h.ef⟩

theorem filter_both (p : Nat → Bool) : ∀ l : List Nat, (l.filter p).length + (l.filter (fun x => !p x)).length = l.length
  | [] => rfl
  | a :: l => by
    have ih := filter_both p l
    cases h : p a
    · simp only [List.filter_cons, h, Bool.not_false, if_true, List.length_cons]
      simp only [Bool.false_eq_true, if_false]
      omega
    · simp only [List.filter_cons, h, Bool.not_true, if_true, List.length_cons]
      simp only [Bool.false_eq_true, if_false]
      omega

/-- From handOver's own words. -/
theorem Bw.ew {Y : Lb} {I : Li} {w : World} {n : Nat} {bs : List Nat} {vf wh wf : Value} {W W7 w9 : World} (h : Bw Y I w n bs vf wh (I.wh n) wf (I.wf n) W) {pc : Nat} {tt : ByteArray} {sq du : Int} (hc : W.heap[pc]? = some (.cells (pendA I.id tt (lk true) sq du) 75 (0, 0))) (hW7 : Stay (fun b => b = Y.bM) W W7) (hh : Heldd (Y.pc I W bs pc) vf (.slice none 0 0) bs [] 0 pc 0 W7 w9) :
    ∃ vf' fl vh hl, Ew Y I w n (Y.pc I W bs pc) vf' fl vh hl wh (I.wh n) wf (I.wf n) w9 ∧ fl.length + hl.length = n + 1 := by
  obtain ⟨vf', fl, vh, hl, a1, a2, a3, a4, a5⟩ := hh
  have hid : (Y.pc I W bs pc).idf pc = I.id := idAt_of hc
  rw [hid] at a1 a2 a3
  have hp : ∀ t, t < n → goes (Y.pc I W bs pc) I.id bs[t]! = I.go t := fun t ht => by
    obtain ⟨t1, t2, t3, e⟩ := h.pd t ht
    show (I.keep && (ownAt W bs[t]! && decide (I.id < idAt W bs[t]!))) = _
    rw [idAt_of e, ownAt_of e]
    rfl
  have hf : ∀ t, t < n → (Y.pc I W bs pc).idf bs[t]! = I.ids t := fun t ht => by
    obtain ⟨t1, t2, t3, e⟩ := h.pd t ht
    exact idAt_of e
  have f1 : (bs.filter (goes (Y.pc I W bs pc) I.id)).map (Y.pc I W bs pc).idf = ((List.range n).filter I.go).map I.ids := filter_blocks h.len hp hf
  have f2 : (bs.filter (fun x => !goes (Y.pc I W bs pc) I.id x)).map (Y.pc I W bs pc).idf = ((List.range n).filter (fun t => !I.go t)).map I.ids := filter_blocks h.len (fun t ht => by rw [hp t ht]) hf
  have l1 : (bs.filter (goes (Y.pc I W bs pc) I.id)).length = ((List.range n).filter I.go).length := by
    have := congrArg List.length f1
    simpa using this
  have n1 : 0 + 1 + (bs.filter (goes (Y.pc I W bs pc) I.id)).length = (I.wh n).length := by
    rw [l1]; simp only [Li.wh, List.length_cons, List.length_map]; omega
  rw [n1] at a1
  have stA : Stay (fun x => x = Y.bM ∨ x = Y.n1 ∨ vf.ownBlock = some x) W w9 := (hW7.mono (fun _ _ e => .inl e)).trans' a5 (fun x _ e => by
    rcases e with e | e | e | e
    · exact .inl e
    · exact .inr (.inl e)
    · exact .inr (.inr e)
    · cases e)
  have ne : ∀ {v : Value} {k : Nat} {xs : List Value}, W.ownsRow Y.B 26 1 v k xs → ∀ g, v.ownBlock = some g → ¬ (g = Y.bM ∨ g = Y.n1 ∨ vf.ownBlock = some g) := fun hr g hg e => by
    obtain ⟨_, cur, e1⟩ := own_at hr hg
    rcases e with e | e | e
    · exact other_of e1 h.m (by decide) e
    · exact other_of e1 h.l1 (by decide) e
    · obtain ⟨c2, e2⟩ := h.fr.block e
      exact other_of e1 e2 (by decide) rfl
  refine ⟨vf', fl, vh, hl, ⟨a1, stA.row h.rh (ne h.rh), stA.row h.rf (ne h.rf), h.ap, below_of h.bel stA (fun b hb e => ?_), h.hB, rfl, rfl, rfl, ?_, ?_⟩, ?_⟩
  · have := h.hB; have := h.bM; have := h.n1
    rcases e with e | e | e
    · omega
    · omega
    · have := ((h.fr : W.ownsRow Y.B 71 1 vf bs.length (bs.map ptr)).lt b e).1
      omega
  · refine srt_eq ?_ (fun s t hst ht => ?_)
    · have h1 := a3.map (Y.pc I W bs pc).idf
      rw [List.map_append, f1] at h1
      simp only [List.map_cons, List.map_nil, hid] at h1
      exact h1.trans (List.perm_append_comm)
    · have ht' : t < hl.length := by simpa using ht
      have := a4 s t hst ht'
      rw [getElem!_pos hl s (by omega), getElem!_pos hl t ht'] at this
      rw [getElem!_pos _ s (by simp; omega), getElem!_pos _ t ht]
      simpa using this
  · refine srt_perm ?_
    have h1 := a2.map (Y.pc I W bs pc).idf
    rw [f2] at h1
    exact h1
  · rw [a2.length_eq, a3.length_eq]
    have h2 := filter_both (goes (Y.pc I W bs pc) I.id) bs
    have h3 := h.len
    simp only [List.length_append, List.length_cons, List.length_nil]
    omega
end Go.Proofs.YbulkcoecFmt
