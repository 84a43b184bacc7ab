/-
  The proof of Rows.LawS4505CRefusalSaid.
-/
import Derived.Test.YbulkcoguRefWalk
import Derived.WalkKit
import Derived.ProofKit
import Derived.OpenShut
import Derived.ShutString
import Derived.ChangeOld
import Derived.Below
import Derived.Deep.SlicePairs
namespace Go.Proofs.Ybulkcogu.lawS4505CRefusal
open Go.ChangeShapes Go.WideShapes Go.ChangeAt Go.RowKit
open Go.ChangeMaps (open_string shut_string)
open Go.Deep (open_slice_pairs choose_lt)
set_option linter.unusedVariables false
set_option linter.unusedSimpArgs false

theorem own : ownKnob Yba.prog.godebug = none := by kernel_rfl
theorem laidOut : laidOutB Yba.prog = true := by kernel_rfl

theorem addr_lit {w : World} {x : Addr} {v : Value} (h : w.cell? (x.add 0) = some v) : x = ⟨x.block, x.off, none⟩ := by
  obtain ⟨b, o, sp⟩ := x
  cases sp with
  | none => rfl
  | some k => simp [Addr.add, World.cell?] at h; split at h <;> simp at h

theorem ints_at' {w : World} {x : Addr} {len cap : Nat} {zs : List Int} (hl : len ≤ cap) (hz : zs.length = cap) (hc : ∀ i, i < zs.length → w.cell? (x.add i) = some (.int .i64 (zs.getD i 0))) : At w (some x) (zs.take len) := by
  intro i hi
  have hi' : i < len := by simp at hi; omega
  have hx := addr_lit (hc 0 (by omega))
  refine ⟨x.block, x.off, by rw [← hx], ?_⟩
  have h1 := hc i (by omega)
  rw [hx, Addr.add_lit] at h1
  rw [h1]
  simp [List.getD, hi']

theorem pairs_at {w : World} {x : Addr} {len : Nat} {f : Nat → Int × Bool} (hc : ∀ i, i < len → w.cell? (x.add (i * 2)) = some (.int .u8 (f i).1) ∧ w.cell? (x.add (i * 2 + 1)) = some (.bool (f i).2)) : AtR w (some x) ((List.range len).map f) := by
  intro i hi
  have hi' : i < len := by simpa using hi
  have hx := addr_lit (hc 0 (by omega)).1
  obtain ⟨h1, h2⟩ := hc i hi'
  rw [hx, Addr.add_lit] at h1 h2
  have e : ((List.range len).map f).getD i (0, false) = f i := by simp [List.getD, hi']
  rw [e]
  exact ⟨x.block, x.off, by rw [← hx], h1, by rw [Nat.add_assoc]; exact h2⟩

theorem walk (nn iv : Int) (a2 a3 : Option Addr) (len2 cap2 len3 cap3 : Nat) (us : List Int) (rf : List (Int × Bool)) (w : World) (hl0 : us.length = len2) (hl1 : rf.length = len3) (hm0 : len2 ≤ maxLen) (hm1 : len3 ≤ maxLen)
    (h2 : At w a2 us) (h3 : AtR w a3 rf) (hz : ∀ k, k < rf.length → 0 ≤ (rf.getD k (0, false)).1 ∧ (rf.getD k (0, false)).1 ≤ 255) (hn0 : 0 ≤ nn) (hn1 : nn ≤ 255) (hi0 : 0 ≤ iv) (hi1 : iv ≤ 255) :
    Calls Yba.prog 4 #[.int .u8 nn, .int .u8 iv, .slice a2 len2 cap2, .slice a3 len3 cap3] w fun e w' => e = .returned (.bool true) ∧ Below w.heap.size w w' := by
  by_cases hlong : 1024 < len2 ∨ 1024 < len3
  · exact refusal_long nn iv a2 a3 len2 len3 cap2 cap3 w hm0 hm1 hlong
  · subst hl0 hl1
    by_cases hK : us.length = 0
    · exact refusal_zero nn iv a2 a3 cap2 cap3 us rf w (by omega) (by omega) hK h2 h3 hz hn0 hn1 hi0 hi1
    · exact refusal_some nn iv a2 a3 cap2 cap3 us rf w (by omega) (by omega) (by omega) h2 h3 hz hn0 hn1 hi0 hi1

set_option maxRecDepth 100000 in
theorem lifted (os : Os) (started : os.Started) (H : Type) (enc : TypeId × Value → H) :
    ReturnsInHanded {} Yba.checked os 4 .any (Rows.lawS4505CRefusalSpec.pre6 enc Yba.prog Yba.f4 Rows.lawS4505CRefusalRow.domain false) (Rows.lawS4505CRefusalSpec.post enc Yba.prog Yba.f4 false true false false) := by
  refine returnsInHanded_of_change (C := Yba.checked) own started (by kernel_rfl) Yba.func4
    (ChangeSpec.witness6 (enc := enc) (C := Yba.checked) false ⟨#[], #[.int .u8 0, .int .u8 0, .slice none 0 0, .slice none 0 0], []⟩ 8 (by kernel_rfl) (by kernel_rfl) (by kernel_rfl) (by kernel_rfl)) ?_
  intro W base args ds gs before hval0 hW hcnd _
  have hval : ∀ (j : Nat) t v, Yba.f4.params[j]? = some t → args[j]? = some v → Value.okWide Yba.prog W .any base t v := hval0
  have hW' := hW
  obtain ⟨p, q, hA0, hV, rfl, hfz, hnd⟩ := hW
  have hA : DataW.TrodAll enc Yba.prog W 0 (fun _ => true) true Yba.f4.params.toList args.toList ds p := hA0
  rw [Yba.params4] at hA hval
  obtain ⟨v0, vs0, d0, ds0, p0, q0, hargs, rfl, rfl, h0, r0⟩ := trodAll_cons hA
  obtain ⟨v1, vs1, d1, ds1, p1, q1, rfl, rfl, rfl, h1, r1⟩ := trodAll_cons r0
  obtain ⟨v2, vs2, d2, ds2, p2, q2, rfl, rfl, rfl, h2, r2⟩ := trodAll_cons r1
  obtain ⟨v3, vs3, d3, ds3, p3, q3, rfl, rfl, rfl, h3, r3⟩ := trodAll_cons r2
  obtain ⟨rfl, rfl, rfl⟩ := trodAll_nil r3
  obtain rfl : args = #[v0, v1, v2, v3] := by cases args; simp_all
  obtain ⟨rfl, rfl⟩ := trodVars_none hV
  obtain ⟨a0, rfl, rfl, rfl, w0⟩ := open_int Yba.underlying5 (hval 0 5 v0 rfl rfl) h0
  obtain ⟨a1, rfl, rfl, rfl, w1⟩ := open_int Yba.underlying5 (hval 1 5 v1 rfl rfl) h1
  obtain ⟨a2, len2, cap2, rfl⟩ := okWide_slice Yba.underlying22 (hval 2 22 v2 rfl rfl)
  have k2 := h2
  have lt2 : ∀ x ∈ p2, x.block < W.heap.size := by obtain ⟨m, hm⟩ := k2; exact DataW.trod_lt m _ _ _ hm
  obtain ⟨us, e2, m2, w2⟩ : ∃ us : List Int, us.length = len2 ∧ len2 ≤ maxLen ∧ At W a2 us := by
    obtain ⟨fuel, hf⟩ := h2
    rcases open_ints Yba.underlying22 Yba.underlying3 (by kernel_rfl) hf with ⟨hcs, _⟩ | ⟨x, l, c, zs, hcs, _, hl, hm, hz, _, hcell, hwz⟩
    · simp [Value.cells] at hcs
      obtain ⟨rfl, rfl, rfl⟩ := hcs
      exact ⟨[], rfl, Nat.zero_le _, fun i hi => by simp at hi⟩
    · simp [Value.cells] at hcs
      obtain ⟨rfl, rfl, rfl⟩ := hcs
      have hz' : zs.length = cap2 := by simpa using hz
      exact ⟨zs.take len2, by simp; omega, by omega, ints_at' hl hz' hcell⟩
  obtain ⟨a3, len3, cap3, rfl⟩ := okWide_slice Yba.underlying43 (hval 3 43 v3 rfl rfl)
  have k3 := h3
  have lt3 : ∀ x ∈ p3, x.block < W.heap.size := by obtain ⟨m, hm⟩ := k3; exact DataW.trod_lt m _ _ _ hm
  obtain ⟨rf, e3, m3, w3, b3⟩ : ∃ rf : List (Int × Bool), rf.length = len3 ∧ len3 ≤ maxLen ∧ AtR W a3 rf ∧ ∀ k, k < rf.length → 0 ≤ (rf.getD k (0, false)).1 ∧ (rf.getD k (0, false)).1 ≤ 255 := by
    obtain ⟨fuel, hf⟩ := h3
    rcases open_slice_pairs Yba.underlying43 Yba.underlying46 (by kernel_rfl) rfl rfl (by kernel_rfl) (by kernel_rfl) hf with ⟨hcs, _⟩ | ⟨x, l, c, m, n, V0, V1, D0, D1, P0, P1, hcs, _, hl, hm, hmm, _, hx⟩
    · simp [Value.cells] at hcs
      obtain ⟨rfl, rfl, rfl⟩ := hcs
      exact ⟨[], rfl, Nat.zero_le _, fun i hi => by simp at hi, fun k hk => by simp at hk⟩
    · simp [Value.cells] at hcs
      obtain ⟨rfl, rfl, rfl⟩ := hcs
      simp only [if_true] at hmm
      subst hmm
      obtain ⟨f, hf⟩ := choose_lt (α := Int × Bool) (n := m) (p := fun i q => V0 i = .int .u8 q.1 ∧ V1 i = .bool q.2 ∧ 0 ≤ q.1 ∧ q.1 ≤ 255) (fun i hi => by
        obtain ⟨_, _, g1, g2⟩ := hx i hi
        obtain ⟨z, hz, _, wz⟩ := DataW.trod_int Yba.underlying5 g1
        obtain ⟨b, hb, _⟩ := DataW.trod_bool Yba.underlying4 g2
        exact ⟨(z, b), by simpa using hz, by simpa using hb, (bounds_u8 wz).1, (bounds_u8 wz).2⟩)
      refine ⟨(List.range len3).map f, by simp, by omega, pairs_at (fun i hi => ?_), fun k hk => ?_⟩
      · obtain ⟨c0, c1, _, _⟩ := hx i (by omega)
        obtain ⟨f0, f1, _, _⟩ := hf i (by omega)
        rw [f0] at c0
        rw [f1] at c1
        exact ⟨c0, c1⟩
      · have hk' : k < len3 := by simpa using hk
        have e : ((List.range len3).map f).getD k (0, false) = f k := by simp [List.getD, hk']
        rw [e]
        exact (hf k (by omega)).2.2
  clear hA0 hval0
  refine (walk a0 a1 a2 a3 len2 cap2 len3 cap3 us rf W e2 e3 m2 m3 w2 w3 b3 (bounds_u8 w0).1 (bounds_u8 w0).2 (bounds_u8 w1).1 (bounds_u8 w1).2).mono fun e W' ⟨he, bel⟩ => ?_
  subst he
  exact ⟨_, rfl, _, _, _, [], _, [], hW', trodAll_mk1 (shut_bool Yba.underlying4 _), (trodAll_cons_mk (shut_int Yba.underlying5 w0) (trodAll_cons_mk (shut_int Yba.underlying5 w1) (trodAll_cons_mk (Below.trod laidOut (by kernel_rfl) (of_decide_eq_true (by kernel_rfl)) k2 bel lt2) (trodAll_cons_mk (Below.trod laidOut (by kernel_rfl) (of_decide_eq_true (by kernel_rfl)) k3 bel lt3) trodAll_mk0)))), rfl, bel.frame _, fun h => by cases h⟩

theorem over : Rows.lawS4505CRefusalRow.holds Yba.pinned (OpenSpec.ofChange Rows.lawS4505CRefusalSpec) :=
  OpenClaim.holds_of_wide 4 Yba.f4 rfl rfl rfl rfl rfl rfl rfl ⟨rfl, rfl, rfl, rfl, rfl⟩ rfl rfl rfl rfl rfl (by kernel_rfl) Yba.func4 (by kernel_rfl)
    (of_decide_eq_true (by kernel_rfl)) (by unfold Func.isWrapper; first | (rw [if_pos (by decide +kernel)]; kernel_rfl) | (rw [if_neg (by decide +kernel)]; exact ⟨rfl, rfl⟩))
    (fun os started H enc _ => lifted os started H enc)

theorem proved : Rows.LawS4505CRefusalSaid := over
#print axioms proved
end Go.Proofs.Ybulkcogu.lawS4505CRefusal
