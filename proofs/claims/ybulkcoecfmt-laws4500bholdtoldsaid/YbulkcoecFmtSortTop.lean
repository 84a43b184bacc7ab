import Derived.Test.YbulkcoecFmtSortPdq
import Derived.Test.YbulkcoecFmtBase
namespace Go.Proofs.YbulkcoecFmt
open Go.RowKit Go.Sort
set_option linter.unusedVariables false
set_option linter.unusedSimpArgs false

/-- The sorted list. -/
def srt (xs : List Int) : List Int := xs.mergeSort (fun x y => !ltInt y x)

theorem ltInt_total (x y : Int) (h1 : ltInt x y = false) (h2 : ltInt y x = false) : x = y := by
  simp only [ltInt, decide_eq_false_iff_not] at h1 h2; omega

set_option maxRecDepth 100000 in
set_option maxHeartbeats 4000000 in
/-- slices.Sort at uint64. -/
theorem sort_su {w0 : World} {blk off N : Nat} {d : Array Int} (R : RowU w0 blk off N) (h : SU w0 blk off N d w0) (hN : N < 4611686018427387904) (cap : Nat) :
    Calls Ybaf.prog 20 #[.slice (some ⟨blk, off, none⟩) N cap] w0 fun e w' => e = .returned (.tuple #[]) ∧ ∃ d' : Array Int, SU w0 blk off N d' w' ∧ d'.toList = srt d.toList := by
  have R : Hid (RowU w0 blk off N) := R
  have hsz : Hid (d.size = N) := h.size
  have h : Hid (SU w0 blk off N d w0) := h
  have hlen : Hid (∀ w, Calls Ybaf.prog 42 #[.int .u64 (N : Int)] w fun e w' => e = .returned (.int .i64 ((bitsLen N : Nat) : Int)) ∧ w' = w) := fun w => len_any N hN w
  have hbl : bitsLen N ≤ 62 := (bitsLen_le_iff N 62).2 (by omega)
  obtain ⟨K, hK⟩ : ∃ K, K = bitsLen N := ⟨_, rfl⟩
  rw [← hK] at hlen hbl
  clear hK
  have wr : IntKind.u64.wrap (N : Int) = N := by simp [IntKind.wrap, IntKind.bits, IntKind.signed]; omega
  go_enter Ybaf.func20, Ybaf.ntmps20
  go_wp2_with fail
  refine (hlen.out _).mono ?_
  rintro e wz ⟨rfl, hwz⟩
  rw [hwz]
  clear hwz
  go_wp2_with fail
  refine Calls.mono (pdq_any R.out hN cap (N + 1) (a := 0) (b := N) (limit := K) (by omega) h.out (by omega) (by omega) (by omega) (Or.inl rfl)) ?_
  rintro e w' ⟨rfl, d', h1, p1, s1⟩
  have h1 : Hid (SU w0 blk off N d' w') := h1
  have p1 : Hid (PermIn 0 N d d') := p1
  have s1 : Hid (SortedIn ltInt 0 N d') := s1
  go_wp2_with fail
  go_end0
  refine ⟨rfl, d', h1.out, ?_⟩
  have := sorted_unique_holds (lt := ltInt) swo_ltInt ltInt_total d d' (by rw [hsz.out]; exact p1.out) (by rw [hsz.out]; exact s1.out)
  exact this

set_option maxRecDepth 100000 in
set_option maxHeartbeats 4000000 in
theorem ins_nil (w : World) : Calls Ybaf.prog 67 #[.slice none 0 0, .int .i64 0, .int .i64 0] w fun e w' => e = .returned (.tuple #[]) ∧ w' = w := by
  go_enter Ybaf.func67, Ybaf.ntmps67
  go_wp2
  go_loopw [6] (fun vi wr => vi = .int .i64 1 ∧ wr = w) (fun _ _ => 0)
  case atStart => exact ⟨rfl, rfl⟩
  case round =>
    obtain ⟨rfl, rfl⟩ := hrel
    go_wp2
    go_end0
    exact ⟨rfl, rfl⟩

set_option maxRecDepth 100000 in
set_option maxHeartbeats 4000000 in
theorem pdq_nil (w : World) (k : Nat) : Calls Ybaf.prog 41 #[.slice none 0 0, .int .i64 0, .int .i64 0, .int .i64 k] w fun e w' => e = .returned (.tuple #[]) ∧ w' = w := by
  go_enter Ybaf.func41, Ybaf.ntmps41
  go_wp2
  go_loopw [1, 2, 3, 8, 9] (fun s1 s2 s3 s8 s9 wr => s1 = .int .i64 0 ∧ s2 = .int .i64 0 ∧ s3 = .int .i64 k ∧ s8 = .bool true ∧ s9 = .bool true ∧ wr = w) (fun _ _ _ _ _ _ => 0)
  case atStart => exact ⟨rfl, rfl, rfl, rfl, rfl, rfl⟩
  case round =>
    obtain ⟨rfl, rfl, rfl, rfl, rfl, rfl⟩ := hrel
    go_wp2_with fail
    refine (ins_nil _).mono ?_
    rintro e w1 ⟨rfl, rfl⟩
    go_wp2_with fail
    (try simp only [Exit.inBlock, Exit.then]); refine bodyPost_ret (results_none rfl _ _ _) rfl ?_
    exact ⟨rfl, rfl⟩

set_option maxRecDepth 100000 in
set_option maxHeartbeats 4000000 in
theorem sort_nil (w : World) : Calls Ybaf.prog 20 #[.slice none 0 0] w fun e w' => e = .returned (.tuple #[]) ∧ w' = w := by
  have hlen : Hid (∀ w, Calls Ybaf.prog 42 #[.int .u64 0] w fun e w' => e = .returned (.int .i64 ((bitsLen 0 : Nat) : Int)) ∧ w' = w) := fun w => len_any 0 (by omega) w
  obtain ⟨K, hK⟩ : ∃ K, K = bitsLen 0 := ⟨_, rfl⟩
  rw [← hK] at hlen
  clear hK
  go_enter Ybaf.func20, Ybaf.ntmps20
  go_wp2_with fail
  refine (hlen.out _).mono ?_
  rintro e w' ⟨rfl, rfl⟩
  go_wp2_with fail
  refine (pdq_nil _ K).mono ?_
  rintro e w' ⟨rfl, rfl⟩
  go_wp2_with fail
  go_end0
  exact ⟨rfl, rfl⟩

theorem heap_putRow_at {w : World} {blk : Nat} {cur : Array Value} {e : TypeId} {fz : Nat × Nat} (d : Array Int) (h : w.heap[blk]? = some (.cells cur e fz)) :
    (putRow (Value.int .u64) w blk 0 d).heap[blk]? = some (.cells (putCells (Value.int .u64) 0 d cur) e fz) := by
  unfold putRow mapBlock
  simp [Array.getElem?_modify, h, onCells]

theorem heap_putRow_other {w : World} {blk b : Nat} (d : Array Int) (h : b ≠ blk) : (putRow (Value.int .u64) w blk 0 d).heap[b]? = w.heap[b]? := by
  unfold putRow mapBlock
  simp only [Array.getElem?_modify, if_neg (Ne.symm h)]

theorem putCells_take (d : Array Int) (cur : Array Value) (h : d.size ≤ cur.size) : (putCells (Value.int .u64) 0 d cur).toList.take d.size = d.toList.map (Value.int .u64) := by
  apply List.ext_getElem
  · simp [putCells]; omega
  · intro k h1 h2
    have hk : k < d.size := by simpa using h2
    simp [putCells, hk, getElem!_pos]

/-- slices.Sort over a row of the call's own. -/
theorem sort_row {B n : Nat} {v : Value} {xs : List Int} {w : World} (hr : w.ownsRow B 26 1 v n (xs.map (Value.int .u64))) (hn : n ≤ 900) :
    Calls Ybaf.prog 20 #[v] w fun e w' => e = .returned (.tuple #[]) ∧ w'.ownsRow B 26 1 v n ((srt xs).map (Value.int .u64)) ∧ Stay (fun b => v.ownBlock = some b) w w' := by
  obtain ⟨hl, hr⟩ := hr
  have hlen : xs.length = n := by simpa using hl
  rcases hr with ⟨rfl, rfl⟩ | ⟨g, cap, cur, rfl, hB, hg, hc, hm, hs, ht⟩
  · obtain rfl : xs = [] := List.length_eq_zero_iff.1 hlen
    refine (sort_nil w).mono ?_
    rintro e w' ⟨rfl, rfl⟩
    exact ⟨rfl, by simpa [srt] using World.ownsRow_nil w' B 26 1, Stay.refl _ _⟩
  · simp only [Nat.mul_one] at hs ht
    have hcell : ∀ k, k < n → cur[k]? = some (.int .u64 xs[k]!) := by
      intro k hk
      have e : (cur.toList.take n)[k]? = (xs.map (Value.int .u64))[k]? := by rw [ht]
      rw [List.getElem?_take_of_lt hk, List.getElem?_map, List.getElem?_eq_getElem (l := xs) (by omega)] at e
      rw [getElem!_pos xs k (by omega)]
      simpa using e
    have hH : Holds (Value.int .u64) w g 0 xs.toArray := by
      intro j hj
      have hj' : j < n := by simpa [hlen] using hj
      refine ⟨?_, ?_⟩
      · rw [Nat.zero_add]
        simp only [World.cell?, hg, hcell j hj']
        simp
      · simp [World.frozen?, hg]
    have hgl := lt_of hg
    have R : RowU w g 0 n := ⟨xs.toArray, by simpa using hlen, ⟨fun _ => rfl, hH, hgl⟩⟩
    refine (sort_su (d := xs.toArray) R ⟨by simpa using hlen, SW.start hH⟩ (by omega) cap).mono ?_
    rintro e w' ⟨rfl, d', ⟨hsz, m, os, hw⟩, hd⟩
    have hd : d'.toList = srt xs := by simpa using hd
    refine ⟨rfl, ?_, ?_⟩
    · refine ⟨by rw [← hd]; simpa using hsz, .inr ⟨g, cap, putCells (Value.int .u64) 0 d' cur, rfl, hB, ?_, hc, hm, ?_, ?_⟩⟩
      · rw [hw]; unfold sortWorld
        rw [heap_grow_old _ _ (by rw [size_putRow]; exact hgl)]
        exact heap_putRow_at d' hg
      · simp [putCells, hs]
      · rw [Nat.mul_one, ← hsz, putCells_take d' cur (by omega), hd]
    · rw [hw]; unfold sortWorld
      refine ⟨rfl, rfl, rfl, by rw [size_grow, size_putRow]; show w.heap.size ≤ w.heap.size + _; omega, fun b hb hnb => ?_⟩
      rw [heap_grow_old _ _ (by rw [size_putRow]; exact hb), heap_putRow_other d' (by intro e; apply hnb; rw [e]; rfl)]
      rfl
end Go.Proofs.YbulkcoecFmt
