import Derived.Test.YbulkcoguRows
import Derived.WalkKit
import Derived.WalkSpells
import Derived.WalkLawsBesides
import Derived.BigQuiet
import Derived.Deep.LoopGhost
namespace Go.Proofs.Ybulkcogu
open Go.RowKit
set_option linter.unusedVariables false
set_option linter.unusedSimpArgs false

/-- (*steps).take(1): one more step, within the limit. -/
theorem take_any (b o : Nat) (t : Int) (w : World) (h0 : w.cell? ⟨b, o, none⟩ = some (.int .i64 t)) (h1 : w.cell? ⟨b, o + 1, none⟩ = some (.int .i64 4611686018427387904))
    (hf : w.frozen? ⟨b, o, none⟩ = false) (ht0 : 0 ≤ t) (ht : t ≤ 1000000) :
    Calls Yba.prog 9 #[.pointer (some ⟨b, o, none⟩), .int .i64 1] w fun e w' => e = .returned (.tuple #[]) ∧ ∃ n, w' = (w.drewN n).setCell ⟨b, o, none⟩ (.int .i64 (t + 1)) := by
  go_enter Yba.func9, Yba.ntmps9
  go_wp2
  go_quiet (fail)
  go_wp2
  go_end0
  exact ⟨rfl, _, rfl⟩

theorem ceq_nil (a1 : Option Addr) (c1 : Nat) (a2 : Option Addr) (c2 : Nat) (w : World) :
    Calls Yba.prog 7 #[.slice a1 0 c1, .slice a2 0 c2] w fun e w' => e = .returned (.bool true) ∧ ∃ n, w' = w.drewN n := by
  go_enter Yba.func7, Yba.ntmps7
  go_wp2
  refine wp_loop_rounds 1 ?_
  rw [rounds_succ]
  go_wp2
  go_ret
  exact ⟨rfl, 0, rfl⟩

theorem ceq_some (b1 o1 : Nat) (c1 : Nat) (b2 o2 : Nat) (c2 : Nat) (zs : List Int) (w : World) (hl : zs.length ≤ 100000)
    (h1 : ∀ i, i < zs.length → w.cell? ⟨b1, o1 + i, none⟩ = some (.int .i64 (zs.getD i 0))) (h2 : ∀ i, i < zs.length → w.cell? ⟨b2, o2 + i, none⟩ = some (.int .i64 (zs.getD i 0))) :
    Calls Yba.prog 7 #[.slice (some ⟨b1, o1, none⟩) zs.length c1, .slice (some ⟨b2, o2, none⟩) zs.length c2] w fun e w' => e = .returned (.bool true) ∧ ∃ n, w' = w.drewN n := by
  go_enter Yba.func7, Yba.ntmps7
  go_wp2
  go_loopw [5] (fun i wr => ∃ k : Nat, k ≤ zs.length ∧ i = .int .i64 k ∧ ∃ n, wr = w.drewN n) (fun i _ => zs.length - (intOf i).toNat)
  case atStart => exact ⟨0, Nat.zero_le _, rfl, 0, rfl⟩
  case round =>
    obtain ⟨k, hk, rfl, n, rfl⟩ := hrel
    by_cases hlt : k < zs.length
    · have g1 := h1 k hlt
      have g2 := h2 k hlt
      clear h1 h2
      go_wp2
      go_quiet (fail)
      go_wp2
      go_roundw
      case rel => exact ⟨k + 1, by omega, by go_num, _, rfl⟩
      case measure => simp [intOf]; omega
    · clear h1 h2
      go_wp2
      go_ret
      exact ⟨rfl, _, rfl⟩

/-- A cell of a block. -/
theorem cell_in {w : World} {b o : Nat} {c : Array Value} {e : TypeId} {fz : Nat × Nat} {u : Value} (h : w.heap[b]? = some (.cells c e fz)) (hu : c[o]? = some u) : w.cell? ⟨b, o, none⟩ = some u := by
  simp [World.cell?, h, hu]

theorem free_in {w : World} {b o : Nat} {c : Array Value} {e : TypeId} (h : w.heap[b]? = some (.cells c e (0, 0))) : w.frozen? ⟨b, o, none⟩ = false := by
  simp [World.frozen?, h]

theorem map_getD (zs : List Int) (j : Nat) (h : j < zs.length) : (zs.map (Value.int .i64))[j]? = some (.int .i64 (zs.getD j 0)) := by
  simp [List.getD, h]

/-- The slice at a reads as zs. -/
def At (w : World) (a : Option Addr) (zs : List Int) : Prop := ∀ i, i < zs.length → ∃ b o, a = some ⟨b, o, none⟩ ∧ w.cell? ⟨b, o + i, none⟩ = some (.int .i64 (zs.getD i 0))

theorem At.all {w : World} {b o : Nat} {zs : List Int} (h : At w (some ⟨b, o, none⟩) zs) (i : Nat) (hi : i < zs.length) : w.cell? ⟨b, o + i, none⟩ = some (.int .i64 (zs.getD i 0)) := by
  obtain ⟨b', o', he, hc⟩ := h i hi
  obtain ⟨rfl, rfl⟩ : b = b' ∧ o = o' := by simpa using he
  exact hc

theorem ceq_any (a1 a2 : Option Addr) (c1 c2 : Nat) (zs : List Int) (w : World) (hl : zs.length ≤ 100000) (h1 : At w a1 zs) (h2 : At w a2 zs) :
    Calls Yba.prog 7 #[.slice a1 zs.length c1, .slice a2 zs.length c2] w fun e w' => e = .returned (.bool true) ∧ ∃ n, w' = w.drewN n := by
  by_cases h : 0 < zs.length
  · obtain ⟨b1, o1, rfl, _⟩ := h1 0 h
    obtain ⟨b2, o2, rfl, _⟩ := h2 0 h
    exact ceq_some b1 o1 c1 b2 o2 c2 zs w hl h1.all h2.all
  · have : zs.length = 0 := by omega
    rw [this]
    exact ceq_nil a1 c1 a2 c2 w

theorem shape_of {w : World} {base : Nat} {e : TypeId} {v : Value} {n : Nat} {xs : List Value} (h : w.ownsRow base e 1 v n xs) : ∃ a c, v = .slice a n c := by
  rcases h.2 with ⟨rfl, rfl⟩ | ⟨g, cap, cur, rfl, _⟩
  · exact ⟨_, _, rfl⟩
  · exact ⟨_, _, rfl⟩

theorem at_of_owns {w : World} {base : Nat} {e : TypeId} {a : Option Addr} {c : Nat} {zs : List Int} (h : w.ownsRow base e 1 (.slice a zs.length c) zs.length (zs.map (Value.int .i64))) : At w a zs := by
  intro i hi
  rcases h.2 with ⟨h1, h2⟩ | ⟨g, cap, cur, hv, _⟩
  · omega
  · simp only [Value.slice.injEq] at hv
    obtain ⟨rfl, _, rfl⟩ := hv
    refine ⟨g, 0, rfl, ?_⟩
    have := h.cells (g := g) rfl i (.int .i64 (zs.getD i 0)) (by simp [List.getD, hi])
    rwa [Addr.add_lit] at this

end Go.Proofs.Ybulkcogu
