import Derived.Test.YbulkcoecFmtSortTop
namespace Go.Proofs.YbulkcoecFmt
open Go.RowKit Go.Sort
set_option linter.unusedVariables false
set_option linter.unusedSimpArgs false

/-- A list in order is its own sorted list. -/
theorem srt_eq {xs l : List Int} (hp : l.Perm xs) (hs : ∀ s t, s < t → t < l.length → l[s]! ≤ l[t]!) : srt xs = l := by
  have hlen : l.length = xs.length := hp.length_eq
  have h := sorted_unique_holds (lt := ltInt) swo_ltInt ltInt_total xs.toArray l.toArray ⟨by simpa using hlen, fun i hi => ?_, ?_⟩ ?_
  · exact h.symm
  · rcases hi with hi | hi
    · omega
    · have h1 : xs.length ≤ i := by simpa using hi
      rw [getElem!_neg _ i (by simp; omega), getElem!_neg _ i (by simp; omega)]
  · have e1 : (l.toArray.extract 0 xs.toArray.size).toList = l := by simp [← hlen]
    have e2 : (xs.toArray.extract 0 xs.toArray.size).toList = xs := by simp
    rw [e1, e2]
    exact hp
  · intro i j _ hij hj
    have hj' : j < l.length := by rw [hlen]; simpa using hj
    have h1 := hs i j hij hj'
    rw [getElem!_pos l i (by omega), getElem!_pos l j hj'] at h1
    simp only [ltInt, decide_eq_false_iff_not]
    rw [getElem!_pos l.toArray j (by simpa using hj'), getElem!_pos l.toArray i (by simp; omega)]
    simp only [List.getElem_toArray]
    omega

theorem srt_perm {xs ys : List Int} (h : xs.Perm ys) : srt xs = srt ys := by
  refine srt_eq ((List.mergeSort_perm ys _).trans h.symm) (fun s t hst ht => ?_)
  have hp : (srt ys).Pairwise (fun x y => (!ltInt y x) = true) := List.pairwise_mergeSort (le := fun x y => !ltInt y x) (fun a b c h1 h2 => by simp [ltInt] at h1 h2 ⊢; omega) (fun a b => by simp [ltInt]; omega) ys
  have h2 := List.pairwise_iff_getElem.1 hp s t (by omega) ht hst
  rw [getElem!_pos _ s (by omega), getElem!_pos _ t ht]
  simpa [ltInt] using h2

theorem srt_length (xs : List Int) : (srt xs).length = xs.length := List.length_mergeSort xs

/-- What the input says. -/
structure Li where
  id : Int
  keep : Bool
  ids : Nat → Int
  own : Nat → Bool

/-- Which copies go with the held one. -/
def Li.go (I : Li) (t : Nat) : Bool := I.keep && (I.own t && decide (I.id < I.ids t))
def Li.wh (I : Li) (i : Nat) : List Int := I.id :: ((List.range i).filter I.go).map I.ids
def Li.wf (I : Li) (i : Nat) : List Int := ((List.range i).filter (fun t => !I.go t)).map I.ids

theorem Li.wh_go {I : Li} {i : Nat} (h : I.go i = true) : I.wh (i + 1) = I.wh i ++ [I.ids i] := by simp [Li.wh, List.range_succ, List.filter_append, h]
theorem Li.wh_no {I : Li} {i : Nat} (h : I.go i = false) : I.wh (i + 1) = I.wh i := by simp [Li.wh, List.range_succ, List.filter_append, h]
theorem Li.wf_go {I : Li} {i : Nat} (h : I.go i = true) : I.wf (i + 1) = I.wf i := by simp [Li.wf, List.range_succ, List.filter_append, h]
theorem Li.wf_no {I : Li} {i : Nat} (h : I.go i = false) : I.wf (i + 1) = I.wf i ++ [I.ids i] := by simp [Li.wf, List.range_succ, List.filter_append, h]
theorem Li.wh_le (I : Li) (i : Nat) : (I.wh i).length ≤ i + 1 := by
  simp only [Li.wh, List.length_cons, List.length_map]
  have := List.length_filter_le I.go (List.range i)
  simp at this
  omega
theorem Li.wf_le (I : Li) (i : Nat) : (I.wf i).length ≤ i := by
  simp only [Li.wf, List.length_map]
  have := List.length_filter_le (fun t => !I.go t) (List.range i)
  simpa using this

/-- Filtering the blocks is filtering their places. -/
theorem filter_blocks {bs : List Nat} {n : Nat} (hl : bs.length = n) {p : Nat → Bool} {q : Nat → Bool} {f g : Nat → Int} (hp : ∀ t, t < n → p bs[t]! = q t) (hf : ∀ t, t < n → f bs[t]! = g t) : (bs.filter p).map f = ((List.range n).filter q).map g := by
  have hb : bs = (List.range n).map (fun t => bs[t]!) := by
    apply List.ext_getElem
    · simp [hl]
    · intro k h1 h2
      simp [h1]
  rw [hb, List.filter_map, List.map_map]
  have e : (List.range n).filter (p ∘ fun t => bs[t]!) = (List.range n).filter q := List.filter_congr (fun t ht => hp t (by simpa using ht))
  rw [e]
  apply List.map_congr_left
  intro t ht
  exact hf t (by simpa using (List.mem_filter.1 ht).1)
end Go.Proofs.YbulkcoecFmt
