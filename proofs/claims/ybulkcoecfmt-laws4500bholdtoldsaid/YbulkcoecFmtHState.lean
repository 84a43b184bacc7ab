import Derived.Test.YbulkcoecFmtHInsMid
import Derived.Test.YbulkcoecFmtHSearch
namespace Go.Proofs.YbulkcoecFmt
open Go.RowKit Go.Deep
set_option linter.unusedVariables false
set_option linter.unusedSimpArgs false

def memA (mu : Int) (keep : Bool) (vpr vf vh vmap : Value) : Array Value := #[.slice none 0 0, .map none, .bool keep, .float .f64 0, .int .i32 mu, .int .u32 0, vpr, .pointer none, .int .u64 0, .int .u64 0, vf, vh, .slice none 0 0, vmap]
def laneA (bM : Nat) (h : Nat) : Array Value := #[.bool false, .int .u64 0, .int .u64 0, .int .i64 h, .int .u64 0, .pointer (some ⟨bM, 4, none⟩), .func (.func 36) #[] #[], .nilFunc, .slice none 0 0, .bool false]
def pendA (id : Int) (tt : ByteArray) (lk : Int) (seq due : Int) : Array Value := #[.int .u64 id, .string ⟨#[97]⟩, .string tt, .slice none 0 0, .int .i64 0, .int .i64 lk, .int .u64 seq, .int .u64 due]

/-- The places. -/
structure Pc where
  B : Nat
  bM : Nat
  r : Nat
  n1 : Nat
  n2 : Nat
  x1 : Nat
  x2 : Nat
  xc : Nat
  keep : Bool
  vpr : Value
  idf : Nat → Int
  own : Nat → Bool
  ps : Nat → Prop

def lk (b : Bool) : Int := if b then 1 else 2

/-- What stands while copies are held. -/
structure Hw (X : Pc) (mu : Int) (vf : Value) (fl : List Nat) (vh : Value) (hl : List Nat) (h1 : Nat) (w : World) : Prop where
  m : w.heap[X.bM]? = some (.cells (memA mu X.keep X.vpr vf vh (.map (some X.r))) 66 (0, 0))
  mp : w.heap[X.r]? = some (.map #[⟨.agg #[.int .i64 0, .int .i64 1], ptr X.n1, X.x1⟩, ⟨.agg #[.int .i64 0, .int .i64 2], ptr X.n2, X.x2⟩] X.xc)
  l1 : w.heap[X.n1]? = some (.cells (laneA X.bM h1) 86 (0, 0))
  l2 : w.heap[X.n2]? = some (.cells (laneA X.bM 0) 86 (0, 0))
  n12 : X.n1 ≠ X.n2
  fr : Row X.B vf fl w
  hr : Row X.B vh hl w
  ap : ∀ g, vf.ownBlock = some g → vh.ownBlock ≠ some g
  pd : ∀ b, X.ps b → ∃ tt sq du, w.heap[b]? = some (.cells (pendA (X.idf b) tt (lk (X.own b)) sq du) 75 (0, 0))
  sf : ∀ b, b ∈ fl → X.ps b
  sh : ∀ b, b ∈ hl → X.ps b
  hB : X.B ≤ w.heap.size

theorem Row.block {B : Nat} {v : Value} {l : List Nat} {w : World} (h : Row B v l w) {g : Nat} (hg : v.ownBlock = some g) : ∃ cur, w.heap[g]? = some (.cells cur 71 (0, 0)) := by
  rcases h.parts with ⟨rfl, _⟩ | ⟨g', cap, cur, rfl, hr⟩
  · cases hg
  · simp only [Value.ownBlock, Option.some.injEq] at hg
    subst hg
    exact ⟨cur, hr.at_⟩

theorem Row.stay {S : Nat → Prop} {B : Nat} {v : Value} {l : List Nat} {w w' : World} (h : Row B v l w) (hs : Stay S w w') (hn : ∀ g, v.ownBlock = some g → ¬ S g) : Row B v l w' := hs.row h hn

section
variable {X : Pc} {mu : Int} {vf vh : Value} {fl hl : List Nat} {h1 : Nat} {w w' : World}

/-- Nothing that it tells of has turned. -/
theorem Hw.keep_ {S : Nat → Prop} (h : Hw X mu vf fl vh hl h1 w) (hs : Stay S w w') (hM : ¬ S X.bM) (hr : ¬ S X.r) (hn1 : ¬ S X.n1) (hn2 : ¬ S X.n2) (hf : ∀ g, vf.ownBlock = some g → ¬ S g) (hh : ∀ g, vh.ownBlock = some g → ¬ S g) (hp : ∀ b, X.ps b → ¬ S b) : Hw X mu vf fl vh hl h1 w' :=
  ⟨hs.at_ h.m hM, hs.at_ h.mp hr, hs.at_ h.l1 hn1, hs.at_ h.l2 hn2, h.n12, h.fr.stay hs hf, h.hr.stay hs hh, h.ap, fun b hb => by
    obtain ⟨tt, sq, du, e⟩ := h.pd b hb
    exact ⟨tt, sq, du, hs.at_ e (hp b hb)⟩, h.sf, h.sh, Nat.le_trans h.hB hs.size⟩

theorem Hw.idle (h : Hw X mu vf fl vh hl h1 w) (hs : Stay (fun _ => False) w w') : Hw X mu vf fl vh hl h1 w' :=
  h.keep_ hs (fun e => e) (fun e => e) (fun e => e) (fun e => e) (fun _ _ e => e) (fun _ _ e => e) (fun _ _ e => e)

/-- A block of pointers is none of the others. -/
structure Apart71 (X : Pc) (w : World) (g : Nat) : Prop where
  M : g ≠ X.bM
  r : g ≠ X.r
  n1 : g ≠ X.n1
  n2 : g ≠ X.n2
  p : ∀ b, X.ps b → g ≠ b

theorem Hw.apart (h : Hw X mu vf fl vh hl h1 w) {g : Nat} {cur : Array Value} (hg : w.heap[g]? = some (.cells cur 71 (0, 0))) : Apart71 X w g :=
  ⟨other_of hg h.m (by decide), other_map hg h.mp, other_of hg h.l1 (by decide), other_of hg h.l2 (by decide), fun b hb => by
    obtain ⟨tt, sq, du, e⟩ := h.pd b hb
    exact other_of hg e (by decide)⟩

theorem Hw.apartF (h : Hw X mu vf fl vh hl h1 w) {g : Nat} (hg : vf.ownBlock = some g) : Apart71 X w g := by
  obtain ⟨cur, e⟩ := h.fr.block hg; exact h.apart e
theorem Hw.apartH (h : Hw X mu vf fl vh hl h1 w) {g : Nat} (hg : vh.ownBlock = some g) : Apart71 X w g := by
  obtain ⟨cur, e⟩ := h.hr.block hg; exact h.apart e

/-- The held row has moved and is stored. -/
theorem Hw.held (h : Hw X mu vf fl vh hl h1 w) {vh' : Value} {hl' : List Nat} (hs : Stay (fun x => vh.ownBlock = some x) w w') (hr : Row X.B vh' hl' w') (hm : Moved w vh vh') (hp : ∀ b, b ∈ hl' → X.ps b) :
    Hw X mu vf fl vh' hl' h1 (w'.setCell ⟨X.bM, 11, none⟩ vh') := by
  have hM : w'.heap[X.bM]? = some (.cells (memA mu X.keep X.vpr vf vh (.map (some X.r))) 66 (0, 0)) := hs.at_ h.m (fun e => (h.apartH e).M rfl)
  have hs2 : Stay (fun x => x = X.bM) w' (w'.setCell ⟨X.bM, 11, none⟩ vh') := Stay.set _ _ _ _ rfl
  have hrM : X.r ≠ X.bM := (other_map h.m h.mp).symm
  have e1 : X.n1 ≠ X.bM := other_of h.l1 h.m (by decide)
  have e2 : X.n2 ≠ X.bM := other_of h.l2 h.m (by decide)
  have hr' := hr
  have hfr : Row X.B vf fl w' := h.fr.stay hs (fun g hg e => h.ap g hg e)
  refine ⟨?_, hs2.at_ (hs.at_ h.mp (fun e => (h.apartH e).r rfl)) hrM, hs2.at_ (hs.at_ h.l1 (fun e => (h.apartH e).n1 rfl)) e1, hs2.at_ (hs.at_ h.l2 (fun e => (h.apartH e).n2 rfl)) e2, h.n12, ?_, ?_, ?_, ?_, h.sf, hp, Nat.le_trans h.hB (Nat.le_trans hs.size hs2.size)⟩
  · rw [heap_setCell_same w' X.bM 11 _ 66 _ hM]; rfl
  · refine hfr.stay hs2 (fun g hg e => ?_)
    exact (h.apartF hg).M e
  · refine hr.stay hs2 (fun g hg e => ?_)
    obtain ⟨cur, e3⟩ := hr.block hg
    exact other_of e3 hM (by decide) e
  · intro g hg e
    rcases hm with hm | ⟨g', hm, hlt⟩
    · rw [hm] at e; exact h.ap g hg e
    · obtain ⟨cur, e4⟩ := h.fr.block hg
      have := lt_of e4
      rw [hm] at e
      simp only [Option.some.injEq] at e
      omega
  · intro b hb
    obtain ⟨tt, sq, du, e⟩ := h.pd b hb
    exact ⟨tt, sq, du, hs2.at_ (hs.at_ e (fun e5 => (h.apartH e5).p b hb rfl)) (other_of e h.m (by decide))⟩

/-- The flight has moved and is stored. -/
theorem Hw.flight (h : Hw X mu vf fl vh hl h1 w) {vf' : Value} {fl' : List Nat} (hs : Stay (fun x => vf.ownBlock = some x) w w') (hr : Row X.B vf' fl' w') (hm : Moved w vf vf') (hp : ∀ b, b ∈ fl' → X.ps b) :
    Hw X mu vf' fl' vh hl h1 (w'.setCell ⟨X.bM, 10, none⟩ vf') := by
  have hM : w'.heap[X.bM]? = some (.cells (memA mu X.keep X.vpr vf vh (.map (some X.r))) 66 (0, 0)) := hs.at_ h.m (fun e => (h.apartF e).M rfl)
  have hs2 : Stay (fun x => x = X.bM) w' (w'.setCell ⟨X.bM, 10, none⟩ vf') := Stay.set _ _ _ _ rfl
  have hrM : X.r ≠ X.bM := (other_map h.m h.mp).symm
  have e1 : X.n1 ≠ X.bM := other_of h.l1 h.m (by decide)
  have e2 : X.n2 ≠ X.bM := other_of h.l2 h.m (by decide)
  have hhr : Row X.B vh hl w' := h.hr.stay hs (fun g hg e => h.ap g e hg)
  refine ⟨?_, hs2.at_ (hs.at_ h.mp (fun e => (h.apartF e).r rfl)) hrM, hs2.at_ (hs.at_ h.l1 (fun e => (h.apartF e).n1 rfl)) e1, hs2.at_ (hs.at_ h.l2 (fun e => (h.apartF e).n2 rfl)) e2, h.n12, ?_, ?_, ?_, ?_, hp, h.sh, Nat.le_trans h.hB (Nat.le_trans hs.size hs2.size)⟩
  · rw [heap_setCell_same w' X.bM 10 _ 66 _ hM]; rfl
  · refine hr.stay hs2 (fun g hg e => ?_)
    obtain ⟨cur, e3⟩ := hr.block hg
    exact other_of e3 hM (by decide) e
  · refine hhr.stay hs2 (fun g hg e => ?_)
    exact (h.apartH hg).M e
  · intro g hg e
    rcases hm with hm | ⟨g', hm, hlt⟩
    · rw [hm] at hg; exact h.ap g hg e
    · obtain ⟨cur, e4⟩ := h.hr.block e
      have := lt_of e4
      rw [hm] at hg
      simp only [Option.some.injEq] at hg
      omega
  · intro b hb
    obtain ⟨tt, sq, du, e⟩ := h.pd b hb
    exact ⟨tt, sq, du, hs2.at_ (hs.at_ e (fun e5 => (h.apartF e5).p b hb rfl)) (other_of e h.m (by decide))⟩

/-- The lane's count goes up. -/
theorem Hw.count (h : Hw X mu vf fl vh hl h1 w) (k : Nat) : Hw X mu vf fl vh hl k (w.setCell ⟨X.n1, 3, none⟩ (.int .i64 k)) := by
  have hs2 : Stay (fun x => x = X.n1) w (w.setCell ⟨X.n1, 3, none⟩ (.int .i64 k)) := Stay.set _ _ _ _ rfl
  refine ⟨hs2.at_ h.m (other_of h.m h.l1 (by decide)), hs2.at_ h.mp (other_map h.l1 h.mp).symm, ?_, hs2.at_ h.l2 h.n12.symm, h.n12, h.fr.stay hs2 (fun g hg e => (h.apartF hg).n1 e), h.hr.stay hs2 (fun g hg e => (h.apartH hg).n1 e), h.ap, fun b hb => ?_, h.sf, h.sh, Nat.le_trans h.hB hs2.size⟩
  · rw [heap_setCell_same w X.n1 3 _ 86 _ h.l1]; rfl
  · obtain ⟨tt, sq, du, e⟩ := h.pd b hb
    exact ⟨tt, sq, du, hs2.at_ e (other_of e h.l1 (by decide))⟩

/-- The lock turns. -/
theorem Hw.lock (h : Hw X mu vf fl vh hl h1 w) (mu' : Int) : Hw X mu' vf fl vh hl h1 (w.setCell ⟨X.bM, 4, none⟩ (.int .i32 mu')) := by
  have hs2 : Stay (fun x => x = X.bM) w (w.setCell ⟨X.bM, 4, none⟩ (.int .i32 mu')) := Stay.set _ _ _ _ rfl
  refine ⟨?_, hs2.at_ h.mp (other_map h.m h.mp).symm, hs2.at_ h.l1 (other_of h.l1 h.m (by decide)), hs2.at_ h.l2 (other_of h.l2 h.m (by decide)), h.n12, h.fr.stay hs2 (fun g hg e => (h.apartF hg).M e), h.hr.stay hs2 (fun g hg e => (h.apartH hg).M e), h.ap, fun b hb => ?_, h.sf, h.sh, Nat.le_trans h.hB hs2.size⟩
  · rw [heap_setCell_same w X.bM 4 _ 66 _ h.m]; rfl
  · obtain ⟨tt, sq, du, e⟩ := h.pd b hb
    exact ⟨tt, sq, du, hs2.at_ e (other_of e h.m (by decide))⟩

theorem Hw.id (h : Hw X mu vf fl vh hl h1 w) {b : Nat} (hb : X.ps b) : w.cell? ⟨b, 0, none⟩ = some (.int .u64 (X.idf b)) := by
  obtain ⟨tt, sq, du, e⟩ := h.pd b hb
  exact cell_in e rfl
end
end Go.Proofs.YbulkcoecFmt
