import Derived.Test.YbulkcoguDoorSta
namespace Go.Proofs.YbulkcoguDoor
open Go.RowKit Go.Deep
set_option linter.unusedVariables false
set_option linter.unusedSimpArgs false

/-- A store of what lies there already. -/
theorem set_same {w : World} {b o : Nat} {v : Value} (h : w.cell? ⟨b, o, none⟩ = some v) : w.setCell ⟨b, o, none⟩ v = w := by
  have : w.heap.modify b (fun
      | .cells c elem frozen => .cells (c.setIfInBounds o v) elem frozen
      | o => o) = w.heap := by
    apply Array.ext_getElem?
    intro i
    rw [Array.getElem?_modify]
    split
    · rename_i hi
      subst hi
      simp only [World.cell?] at h
      cases hb : w.heap[b]? with
      | none => rfl
      | some ob =>
        rw [hb] at h
        cases ob <;> simp at h ⊢
        rename_i c _ _
        apply Array.ext_getElem?
        intro j
        rw [Array.getElem?_setIfInBounds]
        split
        · rename_i hj
          subst hj
          rw [h]
          have := (Array.getElem?_eq_some_iff.1 h).1
          simp [this]
        · rfl
    · rfl
  exact congrArg (fun hp => ({ w with heap := hp } : World)) this

/-- k.added(v), one word a set. -/
theorem added_any {L : Lay} (G : Good L) (v : Nat) (hv : v < L.n) (w : World) (h : Fix L w) :
    Calls Ybad.prog 23 #[.pointer (some ⟨L.K, 0, none⟩), .int .i64 v] w fun e w' => e = .returned (.slice (some ⟨L.bB, L.n + v, none⟩) 1 1) ∧ ∃ n, w' = w.drewN n := by
  have h1 := h.k G (o := 1) rfl
  have h4 := h.k G (o := 4) rfl
  have h6 := h.k G (o := 6) rfl
  have := G.m6; have := G.s3
  have hn : L.n ≤ 9 := by unfold Lay.n; omega
  generalize L.n = N at *
  go_enter Ybad.func23, Ybad.ntmps23
  go_wp2_with (first | (go_at_call 29; refine (set_any L.K L.bB (N + v) (2 * N + 1) (2 * N + 1) _ (by simpa using h1) (by simpa using h4) (by omega) (by omega) (by omega)).mono ?_; rintro _ _ ⟨rfl, n, rfl⟩))
  go_ret
  exact ⟨rfl, _, rfl⟩

/-- k.drop(): the queue is empty. -/
theorem drop_any {L : Lay} (G : Good L) (w : World) (h : Fix L w) :
    Calls Ybad.prog 15 #[.pointer (some ⟨L.K, 0, none⟩)] w fun e w' => e = .returned (.tuple #[]) ∧ w' = w := by
  have h15 := h.k G (o := 15) rfl
  have hf := h.fr G (b := L.K) (by simp [Lay.Spec]) 15
  go_enter Ybad.func15, Ybad.ntmps15
  go_wp2
  go_loopw [9] (fun i wr => i = .int .i64 0 ∧ wr = w) (fun _ _ => 0)
  case atStart => exact ⟨rfl, rfl⟩
  case round =>
    obtain ⟨rfl, rfl⟩ := hrel
    go_wp2
    go_end0
    exact ⟨rfl, set_same h15⟩

/-- k.settleWithin(-1): the queue is empty. -/
theorem settleWithin_any {L : Lay} (G : Good L) (w : World) (h : Fix L w) :
    Calls Ybad.prog 24 #[.pointer (some ⟨L.K, 0, none⟩), .int .i64 (-1)] w fun e w' => e = .returned (.tuple #[.bool true, .bool true]) ∧ w' = w := by
  have h15 := h.k G (o := 15) rfl
  have h36 := h.k G (o := 36) rfl
  have hf := h.fr G (b := L.K) (by simp [Lay.Spec]) 15
  go_enter Ybad.func24, Ybad.ntmps24
  go_wp2
  go_loopw [7] (fun i wr => i = .int .i64 0 ∧ wr = w) (fun _ _ => 0)
  case atStart => exact ⟨rfl, rfl⟩
  case round =>
    obtain ⟨rfl, rfl⟩ := hrel
    go_wp2
    go_ret2
    exact ⟨rfl, set_same h15⟩

/-- k.settle(): the queue is empty. -/
theorem settle_any {L : Lay} (G : Good L) (w : World) (h : Fix L w) :
    Calls Ybad.prog 14 #[.pointer (some ⟨L.K, 0, none⟩)] w fun e w' => e = .returned (.bool true) ∧ w' = w := by
  go_enter Ybad.func14, Ybad.ntmps14
  go_wp2_with (first | (go_at_call 24; refine (settleWithin_any G _ h).mono ?_; rintro _ _ ⟨rfl, rfl⟩))
  go_ret
  exact ⟨rfl, rfl⟩

/-- k.forget(0): no edges. -/
theorem forget_any {L : Lay} (G : Good L) (w : World) (h : Fix L w) :
    Calls Ybad.prog 18 #[.pointer (some ⟨L.K, 0, none⟩), .int .i64 0] w fun e w' => e = .returned (.tuple #[]) ∧ w' = w := by
  have h36 := h.k G (o := 36) rfl
  have hf := h.fr G (b := L.K) (by simp [Lay.Spec]) 36
  go_enter Ybad.func18, Ybad.ntmps18
  go_wp2
  go_loopw [4] (fun i wr => i = .int .i64 (-1) ∧ wr = w) (fun _ _ => 0)
  case atStart => exact ⟨rfl, rfl⟩
  case round =>
    obtain ⟨rfl, rfl⟩ := hrel
    go_wp2
    go_end0
    exact ⟨rfl, set_same h36⟩
end Go.Proofs.YbulkcoguDoor
