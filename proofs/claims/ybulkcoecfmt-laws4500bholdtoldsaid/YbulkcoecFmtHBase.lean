import Derived.Test.YbulkcoecFmtMap
import Derived.Laws.IdiomCopy
import Derived.Lib.Overlaps
import Derived.Lib.AppendZerosOnto
import Derived.Shelf.Spec.SlicesInsert
import Derived.BigQuiet
import Derived.CellFam
import Derived.Deep.QuietTactic
import Derived.Deep.CutRange
import Derived.Deep.DeepCutAuto
import Derived.Sort.WalkA
namespace Go.Proofs.YbulkcoecFmt
open Go.RowKit Go.Deep
set_option linter.unusedVariables false
set_option linter.unusedSimpArgs false

/-- A pointer to a block's head. -/
abbrev ptr (b : Nat) : Value := .pointer (some ⟨b, 0, none⟩)

/-- A row of pointers of the call's own. -/
def Row (B : Nat) (v : Value) (l : List Nat) (w : World) : Prop := w.ownsRow B 71 1 v l.length (l.map ptr)

/-- .. that is not nil, its parts. -/
structure RowAt (B g cap : Nat) (cur : Array Value) (l : List Nat) (w : World) : Prop where
  ge : B ≤ g
  at_ : w.heap[g]? = some (.cells cur 71 (0, 0))
  le : l.length ≤ cap
  max : cap ≤ maxLen
  size : cur.size = cap
  get : ∀ t, t < l.length → cur[t]? = some (ptr l[t]!)

theorem Row.parts {B : Nat} {v : Value} {l : List Nat} {w : World} (h : Row B v l w) : (v = .slice none 0 0 ∧ l = []) ∨ ∃ g cap cur, v = .slice (some ⟨g, 0, none⟩) l.length cap ∧ RowAt B g cap cur l w := by
  obtain ⟨hl, hr⟩ := h
  rcases hr with ⟨rfl, h0⟩ | ⟨g, cap, cur, rfl, hB, hg, hc, hm, hs, ht⟩
  · exact .inl ⟨rfl, List.length_eq_zero_iff.1 h0⟩
  · refine .inr ⟨g, cap, cur, rfl, hB, hg, hc, hm, by simpa using hs, ?_⟩
    intro k hk
    simp only [Nat.mul_one] at ht
    have e : (cur.toList.take l.length)[k]? = (l.map ptr)[k]? := by rw [ht]
    rw [List.getElem?_take_of_lt hk, List.getElem?_map, List.getElem?_eq_getElem (l := l) (by omega)] at e
    rw [getElem!_pos l k (by omega)]
    simpa using e

theorem RowAt.row {B g cap : Nat} {cur : Array Value} {l : List Nat} {w : World} (h : RowAt B g cap cur l w) : Row B (.slice (some ⟨g, 0, none⟩) l.length cap) l w := by
  refine ⟨by simp, .inr ⟨g, cap, cur, rfl, h.ge, h.at_, h.le, h.max, by simpa using h.size, ?_⟩⟩
  apply List.ext_getElem?
  intro k
  rw [Nat.mul_one]
  by_cases hk : k < l.length
  · rw [List.getElem?_take_of_lt hk, List.getElem?_map, List.getElem?_eq_getElem (l := l) hk]
    have := h.get k hk
    rw [getElem!_pos l k hk] at this
    simpa using this
  · rw [List.getElem?_eq_none (by simp; omega), List.getElem?_eq_none (by simp; omega)]

theorem RowAt.cell {B g cap : Nat} {cur : Array Value} {l : List Nat} {w : World} (h : RowAt B g cap cur l w) : ∀ t, t < l.length → w.cell? ⟨g, t, none⟩ = some (ptr l[t]!) := fun t ht => cell_in h.at_ (h.get t ht)

theorem RowAt.there {B g cap : Nat} {cur : Array Value} {l : List Nat} {w : World} (h : RowAt B g cap cur l w) : ∀ t, t < cap → (w.cell? ⟨g, t, none⟩).isSome = true := fun t ht => by
  have e : cur[t]? = some cur[t]! := by rw [getElem!_pos cur t (by rw [h.size]; exact ht)]; exact Array.getElem?_eq_getElem (by rw [h.size]; exact ht)
  rw [cell_in h.at_ e]; rfl

theorem RowAt.free {B g cap : Nat} {cur : Array Value} {l : List Nat} {w : World} (h : RowAt B g cap cur l w) : ∀ t, w.frozen? ⟨g, t, none⟩ = false := fun t => free_in h.at_

theorem RowAt.stay {S : Nat → Prop} {B g cap : Nat} {cur : Array Value} {l : List Nat} {w w' : World} (h : RowAt B g cap cur l w) (hs : Stay S w w') (hn : ¬ S g) : RowAt B g cap cur l w' :=
  ⟨h.ge, hs.at_ h.at_ hn, h.le, h.max, h.size, h.get⟩

/-- Blocks of other types are other blocks. -/
theorem other_of {w : World} {a b : Nat} {c d : Array Value} {s t : TypeId} {x y : Nat × Nat} (h1 : w.heap[a]? = some (.cells c s x)) (h2 : w.heap[b]? = some (.cells d t y)) (hne : s ≠ t) : a ≠ b := by
  rintro rfl
  rw [h1] at h2
  simp only [Option.some.injEq, Obj.cells.injEq] at h2
  exact hne h2.2.1

theorem other_map {w : World} {a b : Nat} {c : Array Value} {s : TypeId} {x : Nat × Nat} {es : Array MapEntry} {k : Nat} (h1 : w.heap[a]? = some (.cells c s x)) (h2 : w.heap[b]? = some (.map es k)) : a ≠ b := by
  rintro rfl
  rw [h1] at h2
  cases h2

/-- A block behind stores of a list. -/
theorem heap_setCells_at {b : Nat} {e : TypeId} : ∀ (vs : List Value) (o : Nat) (w : World) (c : Array Value), w.heap[b]? = some (.cells c e (0, 0)) →
    ∃ c', (w.setCells b o vs).heap[b]? = some (.cells c' e (0, 0)) ∧ c'.size = c.size ∧ ∀ k, c'[k]? = if o ≤ k ∧ k < o + vs.length ∧ k < c.size then vs[k - o]? else c[k]?
  | [], o, w, c, h => ⟨c, h, rfl, fun k => by rw [if_neg (by simp; omega)]⟩
  | v :: r, o, w, c, h => by
    have h1 : (w.setCell ⟨b, o, none⟩ v).heap[b]? = some (.cells (c.setIfInBounds o v) e (0, 0)) := heap_setCell_same w b o c e v h
    obtain ⟨c', h2, h3, h4⟩ := heap_setCells_at r (o + 1) _ _ h1
    refine ⟨c', h2, by rw [h3]; simp, fun k => ?_⟩
    rw [h4 k]
    simp only [Array.size_setIfInBounds, List.length_cons]
    by_cases hk : k = o
    · subst hk
      rw [if_neg (by omega)]
      by_cases hc : k < c.size
      · rw [if_pos ⟨Nat.le_refl _, by omega, hc⟩]; simp [hc]
      · rw [if_neg (by omega)]; simp [hc]
    · rw [Array.getElem?_setIfInBounds_ne (fun e => hk e.symm)]
      by_cases hin : o + 1 ≤ k ∧ k < o + 1 + r.length ∧ k < c.size
      · rw [if_pos hin, if_pos (by omega), show k - o = (k - (o + 1)) + 1 by omega, List.getElem?_cons_succ]
      · rw [if_neg hin, if_neg (by omega)]

theorem Stay.setCells {S : Nat → Prop} {b : Nat} (hb : S b) : ∀ (vs : List Value) (o : Nat) (w : World), Stay S w (w.setCells b o vs)
  | [], _, w => Stay.refl _ w
  | v :: r, o, w => (Stay.set w b o v hb).trans (Stay.setCells hb r (o + 1) _)

end Go.Proofs.YbulkcoecFmt
