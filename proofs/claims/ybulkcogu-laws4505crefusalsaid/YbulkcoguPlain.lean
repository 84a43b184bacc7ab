import Derived.Test.YbulkcoguWait
import Derived.Deep.OwnRows
import Derived.BigRegion
import Derived.Deep.Light
namespace Go.Proofs.Ybulkcogu
open Go.RowKit Go.Deep
set_option linter.unusedVariables false
set_option linter.unusedSimpArgs false

/-- What a block holds behind a store into it. -/
theorem heap_set_same {w : World} {b o : Nat} {v : Value} {c : Array Value} {e : TypeId} {fz : Nat × Nat} (h : w.heap[b]? = some (.cells c e fz)) :
    (w.setCell ⟨b, o, none⟩ v).heap[b]? = some (.cells (c.setIfInBounds o v) e fz) := by
  simp [World.setCell, Array.getElem?_modify, h]

/-- n numbers: the first k are f's, the others 0. -/
def fill (f : Nat → Int) (n k : Nat) : Array Value := ((List.range n).map fun x => Value.int .i64 (if x < k then f x else 0)).toArray

theorem fill_size (f : Nat → Int) (n k : Nat) : (fill f n k).size = n := by simp [fill]

theorem fill_at (f : Nat → Int) (n k i : Nat) (h : i < n) : (fill f n k)[i]? = some (.int .i64 (if i < k then f i else 0)) := by
  simp [fill, h]

theorem fill_step (f : Nat → Int) (n k : Nat) : (fill f n k).setIfInBounds k (.int .i64 (f k)) = fill f n (k + 1) := by
  apply Array.ext_getElem?
  intro i
  rw [Array.getElem?_setIfInBounds]
  by_cases hi : i < n
  · rw [fill_at _ _ _ _ hi, fill_size]
    by_cases hk : k = i
    · subst hk; simp [hi, fill_at]
    · simp [hk, fill_at, hi]
      by_cases h1 : i < k
      · simp [h1, show i < k + 1 by omega]
      · simp [h1, show ¬ i < k + 1 by omega]
  · simp [fill, hi]
    intro hk; omega

theorem madeCells_fill (f : Nat → Int) (n : Nat) : madeCells #[Value.int .i64 0] n = fill f n 0 := by
  apply Array.ext_getElem?
  intro i
  by_cases hi : i < n
  · simp [fill_at, hi, madeCells, Nat.mod_one]
  · simp [fill, hi, madeCells]

theorem Yba.info52 : (Yba.prog.info? 52).map (fun i => (i.zero, i.size, i.bytes)) = some (some (.slice none 0 0), 1, 24) := by kernel_rfl
theorem Yba.info77 : (Yba.prog.info? 77).map (fun i => (i.zero, i.size, i.bytes)) = some (some (.slice none 0 0), 1, 24) := by kernel_rfl
theorem Yba.info4 : (Yba.prog.info? 4).map (fun i => (i.zero, i.size, i.bytes)) = some (some (.bool false), 1, 1) := by kernel_rfl

theorem made_at (z : Value) (n i : Nat) (h : i < n) : (madeCells #[z] n)[i]? = some z := by
  simp [madeCells, h, Nat.mod_one]

theorem heap7 (w : World) (o1 o2 o3 o4 o5 o6 o7 : Obj) (w' : World) (hw : w' = (((((((w.alloc o1).alloc o2).alloc o3).alloc o4).alloc o5).alloc o6).alloc o7)) : (∀ k, k < w.heap.size → w'.heap[k]? = w.heap[k]?) ∧
    w'.heap[w.heap.size]? = some o1 ∧ w'.heap[w.heap.size + 1]? = some o2 ∧ w'.heap[w.heap.size + 1 + 1]? = some o3 ∧ w'.heap[w.heap.size + 1 + 1 + 1]? = some o4 ∧ w'.heap[w.heap.size + 1 + 1 + 1 + 1]? = some o5 ∧
    w'.heap[w.heap.size + 1 + 1 + 1 + 1 + 1]? = some o6 ∧ w'.heap[w.heap.size + 1 + 1 + 1 + 1 + 1 + 1]? = some o7 ∧ w'.heap.size = w.heap.size + 7 := by
  subst hw
  refine ⟨fun k hk => ?_, ?_, ?_, ?_, ?_, ?_, ?_, ?_, by simp⟩
  all_goals
    show (((((((w.heap.push _).push _).push _).push _).push _).push _).push _)[_]? = _
    simp only [Array.getElem?_push, Array.size_push]
  · rw [if_neg (by omega), if_neg (by omega), if_neg (by omega), if_neg (by omega), if_neg (by omega), if_neg (by omega), if_neg (by omega)]
  · rw [if_neg (by omega), if_neg (by omega), if_neg (by omega), if_neg (by omega), if_neg (by omega), if_neg (by omega), if_pos trivial]
  · rw [if_neg (by omega), if_neg (by omega), if_neg (by omega), if_neg (by omega), if_neg (by omega), if_pos trivial]
  · rw [if_neg (by omega), if_neg (by omega), if_neg (by omega), if_neg (by omega), if_pos trivial]
  · rw [if_neg (by omega), if_neg (by omega), if_neg (by omega), if_pos trivial]
  · rw [if_neg (by omega), if_neg (by omega), if_pos trivial]
  · rw [if_neg (by omega), if_pos trivial]
  · rw [if_pos trivial]

/-- The search's cells. -/
def sCells (C P G L n : Nat) (v23 : Value) : Array Value :=
  #[Value.pointer (some { block := C, off := 0 }), Value.int IntKind.i64 0,
                Value.int IntKind.i64 0, Value.int IntKind.i64 4611686018427387904,
                Value.slice (some { block := P, off := 0 }) n n, Value.slice none 0 0,
                Value.slice none 0 0, Value.slice none 0 0,
                Value.slice (some { block := G, off := 0 }) n n, Value.slice none 0 0,
                Value.slice (some { block := L, off := 0 }) n n, Value.pointer none,
                Value.pointer none, Value.pointer none, Value.slice none 0 0, Value.slice none 0 0,
                Value.slice none 0 0, Value.int IntKind.i64 0, Value.slice none 0 0, Value.slice none 0 0,
                Value.slice none 0 0, Value.slice none 0 0, Value.int IntKind.i64 0, v23,
                Value.slice none 0 0, Value.slice none 0 0, Value.slice none 0 0, Value.int IntKind.i64 0]

/-- What zzs4505cplain has laid, but for the two rows that its loop fills. -/
structure Laid (w : World) (n R Wb : Nat) (v23 : Value) (pc rc : Array Value) (wr : World) : Prop where
  two : (R = w.heap.size ∧ Wb = w.heap.size + 1) ∨ (R = w.heap.size + 1 ∧ Wb = w.heap.size)
  size : w.heap.size + 7 ≤ wr.heap.size
  reads : wr.heap[R]? = some (.cells rc 52 (0, 0))
  writes : wr.heap[Wb]? = some (.cells (madeCells #[.slice none 0 0] n) 77 (0, 0))
  cons : wr.heap[w.heap.size + 1 + 1]? = some (.cells #[Value.slice none 0 0, .slice (some ⟨R, 0, none⟩) n n, .slice (some ⟨Wb, 0, none⟩) n n, Value.slice none 0 0, Value.slice none 0 0] 57 (0, 0))
  placed : wr.heap[w.heap.size + 1 + 1 + 1]? = some (.cells pc 4 (0, 0))
  search : wr.heap[w.heap.size + 1 + 1 + 1 + 1]? = some (.cells (sCells (w.heap.size + 1 + 1) (w.heap.size + 1 + 1 + 1) (w.heap.size + 1 + 1 + 1 + 1 + 1) (w.heap.size + 1 + 1 + 1 + 1 + 1 + 1) n v23) 37 (0, 0))
  below : Below w.heap.size w wr

/-- A store into one of the two rows, or into the one cell of the search. -/
theorem Laid.set {w : World} {n R Wb : Nat} {v23 : Value} {pc rc : Array Value} {wr : World} (h : Laid w n R Wb v23 pc rc wr) (b o : Nat) (v : Value) (hb : w.heap.size + 5 ≤ b) : Laid w n R Wb v23 pc rc (wr.setCell ⟨b, o, none⟩ v) := by
  have hk : ∀ k, k < w.heap.size + 5 → (wr.setCell ⟨b, o, none⟩ v).heap[k]? = wr.heap[k]? := fun k hk => Below.heap_setCell _ _ _ _ (by show k ≠ b; omega)
  have h2 := h.two
  exact ⟨h.two, by have := h.size; simpa [World.setCell] using this, by rw [hk R (by omega)]; exact h.reads, by rw [hk Wb (by omega)]; exact h.writes, by rw [hk _ (by omega)]; exact h.cons, by rw [hk _ (by omega)]; exact h.placed, by rw [hk _ (by omega)]; exact h.search,
    h.below.setCell (by show w.heap.size ≤ b; omega) _⟩

theorem Laid.drew {w : World} {n R Wb : Nat} {v23 : Value} {pc rc : Array Value} {wr : World} (h : Laid w n R Wb v23 pc rc wr) (q : Nat) : Laid w n R Wb v23 pc rc (wr.drewN q) :=
  ⟨h.two, h.size, h.reads, h.writes, h.cons, h.placed, h.search, below_drewN h.below q⟩

theorem Laid.steps {w : World} {n R Wb : Nat} {v23 u : Value} {pc rc : Array Value} {wr : World} (h : Laid w n R Wb v23 pc rc wr) : Laid w n R Wb u pc rc (wr.setCell ⟨w.heap.size + 1 + 1 + 1 + 1, 23, none⟩ u) := by
  have hk : ∀ k, k ≠ w.heap.size + 1 + 1 + 1 + 1 → (wr.setCell ⟨w.heap.size + 1 + 1 + 1 + 1, 23, none⟩ u).heap[k]? = wr.heap[k]? := fun k hk => Below.heap_setCell _ _ _ _ hk
  have h2 := h.two
  exact ⟨h.two, by have := h.size; simpa [World.setCell] using this, by rw [hk R (by omega)]; exact h.reads, by rw [hk Wb (by omega)]; exact h.writes, by rw [hk _ (by omega)]; exact h.cons, by rw [hk _ (by omega)]; exact h.placed, heap_set_same h.search,
    h.below.setCell (by show w.heap.size ≤ w.heap.size + 1 + 1 + 1 + 1; omega) _⟩

/-- New blocks, and writes to rows from w.heap.size + 7 on. -/
theorem Laid.grown {w : World} {n R Wb : Nat} {v23 : Value} {pc rc : Array Value} {wr w' : World} (h : Laid w n R Wb v23 pc rc wr) (hs : wr.heap.size ≤ w'.heap.size) (ho : w'.os = wr.os) (ht : w'.tape = wr.tape) (hp : w'.output = wr.output)
    (hk : ∀ k, k < w.heap.size + 7 → w'.heap[k]? = wr.heap[k]?) : Laid w n R Wb v23 pc rc w' := by
  have h2 := h.two
  have h7 := h.size
  exact ⟨h.two, by omega, by rw [hk R (by omega)]; exact h.reads, by rw [hk Wb (by omega)]; exact h.writes, by rw [hk _ (by omega)]; exact h.cons, by rw [hk _ (by omega)]; exact h.placed, by rw [hk _ (by omega)]; exact h.search,
    h.below.trans ⟨ho, ht, hp, hs, fun k hk' => hk k (by omega)⟩⟩

theorem Laid.store {w : World} {n R Wb : Nat} {v23 : Value} {pc rc : Array Value} {wr : World} (h : Laid w n R Wb v23 pc rc wr) (i : Nat) (v : Value) : Laid w n R Wb v23 pc (rc.setIfInBounds i v) (wr.setCell ⟨R, i, none⟩ v) := by
  have h2 := h.two
  have hk : ∀ k, k ≠ R → (wr.setCell ⟨R, i, none⟩ v).heap[k]? = wr.heap[k]? := fun k hk => Below.heap_setCell _ _ _ _ hk
  exact ⟨h.two, by have := h.size; simpa [World.setCell] using this, heap_set_same h.reads, by rw [hk Wb (by omega)]; exact h.writes, by rw [hk _ (by omega)]; exact h.cons, by rw [hk _ (by omega)]; exact h.placed, by rw [hk _ (by omega)]; exact h.search,
    h.below.setCell (by dsimp only; omega) _⟩

theorem Laid.placed' {w : World} {n R Wb : Nat} {v23 : Value} {pc pc' rc : Array Value} {wr w' : World} (h : Laid w n R Wb v23 pc rc wr) (ho : w'.os = wr.os) (ht : w'.tape = wr.tape) (hp : w'.output = wr.output) (hs : w'.heap.size = wr.heap.size)
    (hk : ∀ k, k ≠ w.heap.size + 1 + 1 + 1 → w'.heap[k]? = wr.heap[k]?) (hpc : w'.heap[w.heap.size + 1 + 1 + 1]? = some (.cells pc' 4 (0, 0))) : Laid w n R Wb v23 pc' rc w' := by
  have h2 := h.two
  have h7 := h.size
  exact ⟨h.two, by omega, by rw [hk R (by omega)]; exact h.reads, by rw [hk Wb (by omega)]; exact h.writes, by rw [hk _ (by omega)]; exact h.cons, hpc, by rw [hk _ (by omega)]; exact h.search,
    h.below.trans ⟨ho, ht, hp, Nat.le_of_eq hs.symm, fun k hk' => hk k (by omega)⟩⟩

def idf (x : Nat) : Int := x
def locf (n x : Nat) : Int := (n : Int) - 1 - x

set_option maxHeartbeats 1000000 in
theorem plain_any (n : Nat) (w : World) (hn1 : 1 ≤ n) (hn : n ≤ 2000) :
    Calls Yba.prog 8 #[.int .i64 n] w fun e w' => e = .returned (.pointer (some ⟨w.heap.size + 1 + 1 + 1 + 1, 0, none⟩)) ∧ ∃ R Wb, Laid w n R Wb (.pointer (some ⟨w.heap.size + 1 + 1 + 1 + 1, 2, none⟩)) (madeCells #[.bool false] n) (madeCells #[.slice none 0 0] n) w' ∧
      w'.heap[w.heap.size + 1 + 1 + 1 + 1 + 1]? = some (.cells (fill idf n n) 3 (0, 0)) ∧ w'.heap[w.heap.size + 1 + 1 + 1 + 1 + 1 + 1]? = some (.cells (fill (locf n) n n) 3 (0, 0)) := by
  have m53 := fun w => run_make_row' (P := Yba.prog) 53 52 (.slice none 0 0) 24 Yba.underlying53 Yba.info52 rfl .i64 .i64 n (by omega) (by omega) w
  have m54 := fun w => run_make_row' (P := Yba.prog) 54 77 (.slice none 0 0) 24 Yba.underlying54 Yba.info77 rfl .i64 .i64 n (by omega) (by omega) w
  have m27 := fun w => run_make_row' (P := Yba.prog) 27 4 (.bool false) 1 Yba.underlying27 Yba.info4 rfl .i64 .i64 n (by omega) (by omega) w
  have m22 := fun w => run_make_row' (P := Yba.prog) 22 3 (.int .i64 0) 8 Yba.underlying22 Yba.info3 rfl .i64 .i64 n (by omega) (by omega) w
  go_enter Yba.func8, Yba.ntmps8
  go_wp2
  go_region
  all_goals go_wp2
  all_goals clear m53 m54 m27 m22
  all_goals
    go_loopw [5] (fun i wr => ∃ k : Nat, k ≤ n ∧ i = .int .i64 k ∧ (∃ R Wb, Laid w n R Wb (.pointer none) (madeCells #[.bool false] n) (madeCells #[.slice none 0 0] n) wr) ∧
        wr.heap[w.heap.size + 1 + 1 + 1 + 1 + 1]? = some (.cells (fill idf n k) 3 (0, 0)) ∧ wr.heap[w.heap.size + 1 + 1 + 1 + 1 + 1 + 1]? = some (.cells (fill (locf n) n k) 3 (0, 0)))
      (fun i _ => n - (intOf i).toNat)
    case atStart =>
      obtain ⟨hold, g1, g2, g3, g4, g5, g6, g7, gs⟩ := heap7 w _ _ _ _ _ _ _ _ rfl
      refine ⟨0, Nat.zero_le _, rfl, ?_, ?_, ?_⟩
      · first
          | exact ⟨_, _, Or.inl ⟨rfl, rfl⟩, Nat.le_of_eq gs.symm, g1, g2, g3, g4, g5, ⟨rfl, rfl, rfl, by show _ ≤ _; rw [World.drew]; simp; omega, hold⟩⟩
          | exact ⟨_, _, Or.inr ⟨rfl, rfl⟩, Nat.le_of_eq gs.symm, g2, g1, g3, g4, g5, ⟨rfl, rfl, rfl, by show _ ≤ _; rw [World.drew]; simp; omega, hold⟩⟩
      · rw [← madeCells_fill]; exact g6
      · rw [← madeCells_fill]; exact g7
    case round =>
      obtain ⟨k, hk, rfl, ⟨R, Wb, hL⟩, hG, hLo⟩ := hrel
      have c8 : wr.cell? ⟨w.heap.size + 1 + 1 + 1 + 1, 8, none⟩ = some (.slice (some ⟨w.heap.size + 1 + 1 + 1 + 1 + 1, 0, none⟩) n n) := cell_in hL.search rfl
      have c10 : wr.cell? ⟨w.heap.size + 1 + 1 + 1 + 1, 10, none⟩ = some (.slice (some ⟨w.heap.size + 1 + 1 + 1 + 1 + 1 + 1, 0, none⟩) n n) := cell_in hL.search rfl
      have c23 : wr.cell? ⟨w.heap.size + 1 + 1 + 1 + 1, 23, none⟩ = some (.pointer none) := cell_in hL.search rfl
      have f23 : wr.frozen? ⟨w.heap.size + 1 + 1 + 1 + 1, 23, none⟩ = false := free_in hL.search
      have HL : Hid (Laid w n R Wb (.pointer none) (madeCells #[.bool false] n) (madeCells #[.slice none 0 0] n) wr) := hL
      have HG : Hid (wr.heap[w.heap.size + 1 + 1 + 1 + 1 + 1]? = some (.cells (fill idf n k) 3 (0, 0))) := hG
      have HLo : Hid (wr.heap[w.heap.size + 1 + 1 + 1 + 1 + 1 + 1]? = some (.cells (fill (locf n) n k) 3 (0, 0))) := hLo
      by_cases hlt : k < n
      · have cG : wr.cell? ⟨w.heap.size + 1 + 1 + 1 + 1 + 1, k, none⟩ = some (.int .i64 0) := cell_in hG (by rw [fill_at _ _ _ _ hlt, if_neg (by omega)])
        have fG : wr.frozen? ⟨w.heap.size + 1 + 1 + 1 + 1 + 1, k, none⟩ = false := free_in hG
        have cL : wr.cell? ⟨w.heap.size + 1 + 1 + 1 + 1 + 1 + 1, k, none⟩ = some (.int .i64 0) := cell_in hLo (by rw [fill_at _ _ _ _ hlt, if_neg (by omega)])
        have fL : wr.frozen? ⟨w.heap.size + 1 + 1 + 1 + 1 + 1 + 1, k, none⟩ = false := free_in hLo
        clear hG hLo hL c23 f23
        go_wp2
        go_roundw
        case rel =>
          refine ⟨k + 1, by omega, by go_num, ⟨R, Wb, (HL.out.set _ _ _ (by omega)).set _ _ _ (by omega)⟩, ?_, ?_⟩
          · rw [Below.heap_setCell _ _ _ _ (by dsimp only; omega), heap_set_same HG.out, ← fill_step]; rfl
          · rw [heap_set_same (c := fill (locf n) n k) (by rw [Below.heap_setCell _ _ _ _ (by dsimp only; omega)]; exact HLo.out), ← fill_step]; rfl
        case measure => simp [intOf]; omega
      · obtain rfl : k = n := by omega
        clear hG hLo hL
        go_wp2
        go_ret
        refine ⟨rfl, R, Wb, HL.out.steps, ?_, ?_⟩
        · rw [Below.heap_setCell _ _ _ _ (by dsimp only; omega)]; exact HG.out
        · rw [Below.heap_setCell _ _ _ _ (by dsimp only; omega)]; exact HLo.out

end Go.Proofs.Ybulkcogu
