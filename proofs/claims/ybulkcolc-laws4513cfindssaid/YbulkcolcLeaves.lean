import Derived.Test.YbulkcolcRows
import Derived.WalkKit
import Derived.WalkSpells
import Derived.WalkLawsBesides
import Derived.BigQuiet
import Derived.Deep.LoopGhost
import Derived.Deep.OwnRows
import Derived.BigRegion
import Derived.Lib.Strings
import Derived.Lib.Slices
import Derived.Lib.Walk
import Derived.Lib.Bytes
import Derived.Laws.BytesArg
import Derived.Laws.IdiomStrings
namespace Go.Proofs.Ybulkcolc
open Go.RowKit Go.Deep
set_option linter.unusedVariables false
set_option linter.unusedSimpArgs false

/-- A cell of a block. -/
theorem cell_in {w : World} {b o : Nat} {c : Array Value} {e : TypeId} {fz : Nat × Nat} {u : Value} (h : w.heap[b]? = some (.cells c e fz)) (hu : c[o]? = some u) : w.cell? ⟨b, o, none⟩ = some u := by
  simp [World.cell?, h, hu]

theorem below_drewN {B : Nat} {a w : World} (h : Below B a w) (n : Nat) : Below B a (w.drewN n) := ⟨h.os, h.tape, h.output, h.size, h.block⟩

theorem isSpace_not (x : Int) (w : World) (h1 : x ≠ 32) (h2 : x ≠ 9) (h3 : x ≠ 13) :
    Calls Yba.prog 27 #[.int .u8 x] w fun e w' => e = .returned (.bool false) ∧ w' = w := by
  go_enter Yba.func27, Yba.ntmps27
  go_wp2
  go_ret
  refine ⟨?_, rfl⟩
  show Ending.returned (Value.bool _) = _
  simp [h1, h2, h3]

/-- The text's bytes. -/
def Txt (w : World) (tb N : Nat) (t : Nat → Int) : Prop := ∀ i, i < N → w.cell? ⟨tb, i, none⟩ = some (.int .u8 (t i))

theorem closing_any (tb N tc i0 m e : Nat) (t : Nat → Int) (w : World) (hT : Txt w tb N t) (h0 : i0 ≤ m) (hm : m ≤ e) (he : e ≤ N) (hN : N ≤ 1000000)
    (hin : ∀ i, i0 ≤ i → i < m → t i ≠ 34 ∧ t i ≠ 92) (hat : m < e → t m = 34) :
    Calls Yba.prog 26 #[.slice (some ⟨tb, 0, none⟩) N tc, .int .u8 34, .int .i64 i0, .int .i64 e] w fun x w' => x = .returned (.int .i64 m) ∧ w' = w := by
  go_enter Yba.func26, Yba.ntmps26
  go_wp2
  go_loopw [2] (fun v wr => ∃ i : Nat, i0 ≤ i ∧ i ≤ m ∧ v = .int .i64 i ∧ wr = w) (fun v _ => e - (intOf v).toNat)
  case atStart => exact ⟨i0, Nat.le_refl _, h0, rfl, rfl⟩
  case round =>
    obtain ⟨i, hi0, him, rfl, rfl⟩ := hrel
    have HIN : Hid (∀ i, i0 ≤ i → i < m → t i ≠ 34 ∧ t i ≠ 92) := hin
    have HT : Hid (Txt wr tb N t) := hT
    have HA : Hid (m < e → t m = 34) := hat
    clear hin hT hat
    by_cases hlt : i < m
    · have g := HT.out i (by omega)
      obtain ⟨n1, n2⟩ := HIN.out i hi0 hlt
      obtain ⟨x, hx⟩ : ∃ x, x = t i := ⟨_, rfl⟩
      rw [← hx] at g n1 n2
      clear hx
      go_wp2
      go_roundw
      case rel => exact ⟨i + 1, by omega, by omega, by go_num, trivial⟩
      case measure => simp [intOf]; omega
    · have : i = m := by omega
      subst this
      by_cases hme : i < e
      · have g := HT.out i (by omega)
        rw [HA.out hme] at g
        go_wp2
        go_ret
        exact ⟨rfl, rfl⟩
      · have : i = e := by omega
        subst this
        go_wp2
        go_ret
        exact ⟨rfl, rfl⟩

theorem quoted_any (tb N tc s m e : Nat) (t : Nat → Int) (w : World) (hT : Txt w tb N t) (h0 : s + 1 ≤ m) (hm : m ≤ e) (he : e < N) (hN : N ≤ 1000000) (hs : t s = 34)
    (hin : ∀ i, s + 1 ≤ i → i < m → t i ≠ 34 ∧ t i ≠ 92) (hsp : ∀ i, s + 1 ≤ i → i < m → t i ≠ 32 ∧ t i ≠ 9 ∧ t i ≠ 13) (hat : m < e → t m = 34) :
    Calls Yba.prog 24 #[.slice (some ⟨tb, 0, none⟩) N tc, .int .i64 s, .int .i64 e] w fun x w' => x = .returned (.tuple #[.int .i64 (s + 1 : Nat), .int .i64 m]) ∧ w' = w := by
  have c := closing_any tb N tc (s + 1) m e t w hT h0 hm (by omega) hN hin hat
  have g0 := hT s (by omega)
  rw [hs] at g0
  have HT : Hid (Txt w tb N t) := hT
  have HSP : Hid (∀ i, s + 1 ≤ i → i < m → t i ≠ 32 ∧ t i ≠ 9 ∧ t i ≠ 13) := hsp
  clear hT hin hat hs hsp
  obtain ⟨s1, hs1⟩ : ∃ s1 : Nat, s1 = s + 1 := ⟨_, rfl⟩
  have hs1I : (s : Int) + 1 = (s1 : Int) := by omega
  have HS1 : Hid (s1 = s + 1) := hs1
  rw [← hs1] at c h0 HSP ⊢
  clear hs1
  go_enter Yba.func24, Yba.ntmps24
  go_wp2_with (go_at_call 26; refine c.mono ?_; rintro x w' ⟨rfl, rfl⟩)
  · by_cases hlt : s1 < m
    · have g1 := HT.out (m - 1) (by omega)
      obtain ⟨n1, n2, n3⟩ := HSP.out (m - 1) (by omega) (by omega)
      obtain ⟨x, hx⟩ : ∃ x, x = t (m - 1) := ⟨_, rfl⟩
      obtain ⟨m1, hm1⟩ : ∃ m1, m1 = m - 1 := ⟨_, rfl⟩
      rw [← hx] at g1 n1 n2 n3
      rw [← hm1] at g1
      have hmI : (m : Int) - 1 = (m1 : Int) := by omega
      have hm1N : m1 < N := by omega
      clear hm1 hx
      have cs := isSpace_not x w' n1 n2 n3
      refine wp_loop_rounds 1 ?_
      rw [rounds_succ]
      go_wp2_with (go_at_call 27; refine cs.mono ?_; rintro x w'' ⟨rfl, rfl⟩)
      go_ret2
      exact ⟨rfl, rfl⟩
    · refine wp_loop_rounds 1 ?_
      rw [rounds_succ]
      go_wp2
      go_ret2
      exact ⟨rfl, rfl⟩
  · go_ret2
    exact ⟨rfl, rfl⟩

/-- The line, its text, its words, as they lie in memory. -/
structure Ln (w : World) (L tb N tc e wb n wcp : Nat) (t : Nat → Int) (ws we : Nat → Nat) : Prop where
  txt : Txt w tb N t
  f0 : w.cell? ⟨L, 0, none⟩ = some (.slice (some ⟨tb, 0, none⟩) N tc)
  f2 : w.cell? ⟨L, 2, none⟩ = some (.int .i64 e)
  f3 : w.cell? ⟨L, 3, none⟩ = some (.slice (some ⟨wb, 0, none⟩) n wcp)
  w0 : ∀ j, j < n → w.cell? ⟨wb, j * 2, none⟩ = some (.int .i64 (ws j))
  w1 : ∀ j, j < n → w.cell? ⟨wb, j * 2 + 1, none⟩ = some (.int .i64 (we j))

theorem Ln.of {w w' : World} {L tb N tc e wb n wcp : Nat} {t : Nat → Int} {ws we : Nat → Nat} (h : Ln w L tb N tc e wb n wcp t ws we)
    (h1 : w'.heap[L]? = w.heap[L]?) (h2 : w'.heap[tb]? = w.heap[tb]?) (h3 : w'.heap[wb]? = w.heap[wb]?) : Ln w' L tb N tc e wb n wcp t ws we :=
  ⟨fun i hi => (World.cell?_of_block h2).trans (h.txt i hi), (World.cell?_of_block h1).trans h.f0, (World.cell?_of_block h1).trans h.f2, (World.cell?_of_block h1).trans h.f3,
    fun j hj => (World.cell?_of_block h3).trans (h.w0 j hj), fun j hj => (World.cell?_of_block h3).trans (h.w1 j hj)⟩

/-- A quoted word: its contents end at m. -/
structure Quoted (t : Nat → Int) (s m e : Nat) : Prop where
  q : t s = 34
  lo : s + 1 ≤ m
  hi : m ≤ e
  inn : ∀ i, s + 1 ≤ i → i < m → t i ≠ 34 ∧ t i ≠ 92 ∧ t i ≠ 32 ∧ t i ≠ 9 ∧ t i ≠ 13
  shut : m < e → t m = 34

theorem span_any (L tb N tc e wb n wcp k m : Nat) (t : Nat → Int) (ws we : Nat → Nat) (w : World) (hL : Ln w L tb N tc e wb n wcp t ws we) (hk : k < n) (hn : n ≤ 1000) (hN : N ≤ 1000000) (he : e < N)
    (hq : Quoted t (ws k) m e) :
    Calls Yba.prog 20 #[.pointer (some ⟨L, 0, none⟩), .int .i64 k] w fun x w' => x = .returned (.tuple #[.int .i64 (ws k + 1 : Nat), .int .i64 m]) ∧ Below w.heap.size w w' := by
  have g0 := hL.f0
  have g2 := hL.f2
  have g3 := hL.f3
  have u0 := hL.w0 k hk
  have u1 := hL.w1 k hk
  have gq := hL.txt (ws k) (by have := hq.lo; have := hq.hi; omega)
  rw [hq.q] at gq
  have hsN : ws k < N := by have := hq.lo; have := hq.hi; omega
  have c : ∀ w', Txt w' tb N t → Calls Yba.prog 24 #[.slice (some ⟨tb, 0, none⟩) N tc, .int .i64 (ws k), .int .i64 e] w' fun x w'' => x = .returned (.tuple #[.int .i64 (ws k + 1 : Nat), .int .i64 m]) ∧ w'' = w' := fun w' h =>
    quoted_any tb N tc (ws k) m e t w' h hq.lo hq.hi he hN hq.q (fun i h1 h2 => ⟨(hq.inn i h1 h2).1, (hq.inn i h1 h2).2.1⟩) (fun i h1 h2 => (hq.inn i h1 h2).2.2) hq.shut
  have HTX : Hid (∀ o x, Txt ((w.alloc o).drewN x) tb N t) := fun o x i hi => by
    have hlt := World.block_lt_of_cell? _ _ (hL.txt i hi)
    refine (World.cell?_of_block ?_).trans (hL.txt i hi)
    exact Below.heap_alloc w o tb hlt
  obtain ⟨s, hs⟩ : ∃ s, s = ws k := ⟨_, rfl⟩
  obtain ⟨f, hf⟩ : ∃ f, f = we k := ⟨_, rfl⟩
  rw [← hs] at u0 gq hsN c ⊢
  rw [← hf] at u1
  have HC : Hid (∀ w', Txt w' tb N t → Calls Yba.prog 24 #[.slice (some ⟨tb, 0, none⟩) N tc, .int .i64 s, .int .i64 e] w' fun x w'' => x = .returned (.tuple #[.int .i64 (s + 1 : Nat), .int .i64 m]) ∧ w'' = w') := c
  clear hL hq hs hf c
  have b0 := World.block_lt_of_cell? _ _ g0
  have b1 := World.block_lt_of_cell? _ _ u0
  have b2 := World.block_lt_of_cell? _ _ gq
  go_enter Yba.func20, Yba.ntmps20
  go_wp2
  go_quiet (fail)
  go_wp2
  go_quiet (first | (go_at_call 24; refine (HC.out _ (HTX.out _ _)).mono ?_; rintro _ _ ⟨rfl, rfl⟩; exact ⟨rfl, _, rfl⟩))
  go_wp2
  go_ret2
  exact ⟨rfl, below_drewN (below_drewN (Below.alloc (Below.refl _ _) (Nat.le_refl _) _) _) _⟩

/-- bytes.Equal (the shelf's template, turned to this program). -/
theorem bytes_Equal (v1 v2 : Value) (xs ys : List Int) (w : World)
    (h1 : (convert 22 9 v1).run Yba.prog w = .ok (.string (strOfNums xs)) w) (h2 : (convert 22 9 v2).run Yba.prog w = .ok (.string (strOfNums ys)) w) :
    Calls Yba.prog 15 #[v1, v2] w fun e w' => e = .returned (.bool (Lib.bytesOf xs == Lib.bytesOf ys)) ∧ w' = w := by
  rw [← Lib.strOfNums_toList, ← Lib.strOfNums_toList]
  go_enter Yba.func15, Yba.ntmps15
  go_wp2
  go_ret
  exact ⟨rfl, rfl⟩

theorem bytes_HasPrefix (b1 o1 n c b2 o2 m d : Nat) (xs ys : List Int) (w : World) (hx : xs.length = n) (hy : ys.length = m) (hnc : n ≤ c)
    (hc1 : ∀ i, i < n → w.cell? ⟨b1, o1 + i, none⟩ = some (.int .u8 (xs.getD i 0))) (hc2 : ∀ i, i < m → w.cell? ⟨b2, o2 + i, none⟩ = some (.int .u8 (ys.getD i 0))) :
    Calls Yba.prog 21 #[.slice (some ⟨b1, o1, none⟩) n c, .slice (some ⟨b2, o2, none⟩) m d] w fun e w' => e = .returned (.bool (Lib.hasPrefix (Lib.bytesOf xs) (Lib.bytesOf ys))) ∧ w' = w := by
  rw [← Lib.bytes_hasPrefix, hx, hy]
  have g2 := run_convert_bytes_arg (P := Yba.prog) w 22 5 Yba.underlying22 Yba.underlying5 b2 o2 m d ys hy hc2 9 Yba.underlying9
  have g1 : m ≤ n → (convert 22 9 (.slice (some ⟨b1, o1, none⟩) m c)).run Yba.prog w = .ok (.string (strOfNums (xs.take m))) w := fun h =>
    run_convert_bytes_arg (P := Yba.prog) w 22 5 Yba.underlying22 Yba.underlying5 b1 o1 m c (xs.take m) (by simp; omega) (fun i hi => by rw [Lib.getD_take _ _ _ hi]; exact hc1 i (by omega)) 9 Yba.underlying9
  go_enter Yba.func21, Yba.ntmps21
  go_wp2_with (go_at_call 15; refine (bytes_Equal _ _ (xs.take m) ys _ (g1 (by assumption)) g2).mono ?_; rintro e w' ⟨rfl, rfl⟩)
  · have h : m ≤ n := by assumption
    go_ret
    refine ⟨?_, rfl⟩
    rw [decide_eq_true h, Bool.true_and]
    rfl
  · have h : ¬ m ≤ n := by assumption
    go_ret
    refine ⟨?_, rfl⟩
    rw [decide_eq_false h, Bool.false_and]
    rfl

end Go.Proofs.Ybulkcolc
