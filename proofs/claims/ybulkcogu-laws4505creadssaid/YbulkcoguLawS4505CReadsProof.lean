/-
  The proof of Rows.LawS4505CReadsSaid.
-/
import Derived.Test.YbulkcoguReadsWalk
import Derived.WalkKit
import Derived.ProofKit
import Derived.OpenShut
import Derived.ShutString
import Derived.ChangeOld
import Derived.Below
import Derived.Deep.Grids
namespace Go.Proofs.Ybulkcogu.lawS4505CReads
open Go.ChangeShapes Go.WideShapes Go.ChangeAt Go.RowKit
open Go.ChangeMaps (open_string shut_string)
open Go.Deep (open_bools)
set_option linter.unusedVariables false
set_option linter.unusedSimpArgs false

theorem own : ownKnob Yba.prog.godebug = none := by kernel_rfl
theorem laidOut : laidOutB Yba.prog = true := by kernel_rfl

theorem addr_lit {w : World} {x : Addr} {v : Value} (h : w.cell? (x.add 0) = some v) : x = ⟨x.block, x.off, none⟩ := by
  obtain ⟨b, o, sp⟩ := x
  cases sp with
  | none => rfl
  | some k => simp [Addr.add, World.cell?] at h; split at h <;> simp at h

/-- What the walk is told of a slice of bools. -/
theorem bools_at {w : World} {x : Addr} {len cap : Nat} {B : Nat → Bool} (hl : len ≤ cap) (hc : ∀ i, i < cap → w.cell? (x.add i) = some (.bool (B i))) : AtB w (some x) ((List.range len).map B) := by
  intro i hi
  have hi' : i < len := by simpa using hi
  have hx := addr_lit (hc 0 (by omega))
  refine ⟨x.block, x.off, by rw [← hx], ?_⟩
  have h1 := hc i (by omega)
  rw [hx, Addr.add_lit] at h1
  rw [h1]
  simp [List.getD, hi']

theorem ints_at' {w : World} {x : Addr} {len cap : Nat} {zs : List Int} (hl : len ≤ cap) (hz : zs.length = cap) (hc : ∀ i, i < zs.length → w.cell? (x.add i) = some (.int .u8 (zs.getD i 0))) : AtU w (some x) (zs.take len) := by
  intro i hi
  have hi' : i < len := by simp at hi; omega
  have hx := addr_lit (hc 0 (by omega))
  refine ⟨x.block, x.off, by rw [← hx], ?_⟩
  have h1 := hc i (by omega)
  rw [hx, Addr.add_lit] at h1
  rw [h1]
  simp [List.getD, hi']

theorem walk (a0 a1 : Option Addr) (len0 cap0 len1 cap1 : Nat) (ps : List Bool) (zs : List Int) (iv : Int) (w : World) (hl0 : ps.length = len0) (hl1 : zs.length = len1) (hm0 : len0 ≤ maxLen) (hm1 : len1 ≤ maxLen)
    (h0 : AtB w a0 ps) (h1 : AtU w a1 zs) (hz : ∀ k, k < zs.length → 0 ≤ zs.getD k 0 ∧ zs.getD k 0 ≤ 255) (hi0 : 0 ≤ iv) (hi1 : iv ≤ 255) :
    Calls Yba.prog 5 #[.slice a0 len0 cap0, .slice a1 len1 cap1, .int .u8 iv] w fun e w' => e = .returned (.bool true) ∧ Below w.heap.size w w' := by
  by_cases hlong : 1024 < len0 ∨ 1024 < len1
  · exact reads_long a0 a1 len0 len1 cap0 cap1 iv w hm0 hm1 hlong
  · subst hl0 hl1
    exact reads_some a0 a1 cap0 cap1 ps zs iv w (by omega) (by omega) h0 h1 hz hi0 hi1

set_option maxRecDepth 100000 in
theorem lifted (os : Os) (started : os.Started) (H : Type) (enc : TypeId × Value → H) :
    ReturnsInHanded {} Yba.checked os 5 .any (Rows.lawS4505CReadsSpec.pre6 enc Yba.prog Yba.f5 Rows.lawS4505CReadsRow.domain false) (Rows.lawS4505CReadsSpec.post enc Yba.prog Yba.f5 false true false false) := by
  refine returnsInHanded_of_change (C := Yba.checked) own started (by kernel_rfl) Yba.func5
    (ChangeSpec.witness6 (enc := enc) (C := Yba.checked) false ⟨#[], #[.slice none 0 0, .slice none 0 0, .int .u8 0], []⟩ 8 (by kernel_rfl) (by kernel_rfl) (by kernel_rfl) (by kernel_rfl)) ?_
  intro W base args ds gs before hval0 hW hcnd _
  have hval : ∀ (j : Nat) t v, Yba.f5.params[j]? = some t → args[j]? = some v → Value.okWide Yba.prog W .any base t v := hval0
  have hW' := hW
  obtain ⟨p, q, hA0, hV, rfl, hfz, hnd⟩ := hW
  have hA : DataW.TrodAll enc Yba.prog W 0 (fun _ => true) true Yba.f5.params.toList args.toList ds p := hA0
  rw [Yba.params5] at hA hval
  obtain ⟨v0, vs0, d0, ds0, p0, q0, hargs, rfl, rfl, h0, r0⟩ := trodAll_cons hA
  obtain ⟨v1, vs1, d1, ds1, p1, q1, rfl, rfl, rfl, h1, r1⟩ := trodAll_cons r0
  obtain ⟨v2, vs2, d2, ds2, p2, q2, rfl, rfl, rfl, h2, r2⟩ := trodAll_cons r1
  obtain ⟨rfl, rfl, rfl⟩ := trodAll_nil r2
  obtain rfl : args = #[v0, v1, v2] := by cases args; simp_all
  obtain ⟨rfl, rfl⟩ := trodVars_none hV
  obtain ⟨a0, len0, cap0, rfl⟩ := okWide_slice Yba.underlying27 (hval 0 27 v0 rfl rfl)
  have k0 := h0
  have lt0 : ∀ x ∈ p0, x.block < W.heap.size := by obtain ⟨m, hm⟩ := k0; exact DataW.trod_lt m _ _ _ hm
  obtain ⟨ps, e0, m0, w0⟩ : ∃ ps : List Bool, ps.length = len0 ∧ len0 ≤ maxLen ∧ AtB W a0 ps := by
    obtain ⟨fuel, hf⟩ := h0
    rcases open_bools Yba.underlying27 Yba.underlying4 (by kernel_rfl) hf with ⟨hcs, _⟩ | ⟨x, l, c, B, hcs, _, hl, hm, _, hcell⟩
    · simp [Value.cells] at hcs
      obtain ⟨rfl, rfl, rfl⟩ := hcs
      exact ⟨[], rfl, Nat.zero_le _, fun i hi => by simp at hi⟩
    · simp [Value.cells] at hcs
      obtain ⟨rfl, rfl, rfl⟩ := hcs
      exact ⟨(List.range len0).map B, by simp, by omega, bools_at hl hcell⟩
  obtain ⟨a1, len1, cap1, rfl⟩ := okWide_slice Yba.underlying51 (hval 1 51 v1 rfl rfl)
  have k1 := h1
  have lt1 : ∀ x ∈ p1, x.block < W.heap.size := by obtain ⟨m, hm⟩ := k1; exact DataW.trod_lt m _ _ _ hm
  obtain ⟨zs, e1, m1, w1, b1⟩ : ∃ zs : List Int, zs.length = len1 ∧ len1 ≤ maxLen ∧ AtU W a1 zs ∧ ∀ k, k < zs.length → 0 ≤ zs.getD k 0 ∧ zs.getD k 0 ≤ 255 := by
    obtain ⟨fuel, hf⟩ := h1
    rcases open_ints Yba.underlying51 Yba.underlying5 (by kernel_rfl) hf with ⟨hcs, _⟩ | ⟨x, l, c, zs, hcs, _, hl, hm, hz, _, hcell, hwz⟩
    · simp [Value.cells] at hcs
      obtain ⟨rfl, rfl, rfl⟩ := hcs
      exact ⟨[], rfl, Nat.zero_le _, fun i hi => by simp at hi, fun k hk => by simp at hk⟩
    · simp [Value.cells] at hcs
      obtain ⟨rfl, rfl, rfl⟩ := hcs
      have hz' : zs.length = cap1 := by simpa using hz
      refine ⟨zs.take len1, by simp; omega, by omega, ints_at' hl hz' hcell, fun k hk => ?_⟩
      have hk' : k < zs.length := by simp at hk; omega
      have e : (zs.take len1).getD k 0 = zs[k] := by simp at hk; simp [List.getD, hk, hk']
      rw [e]
      exact bounds_u8 (hwz _ (List.getElem_mem hk'))
  obtain ⟨a2, rfl, rfl, rfl, w2⟩ := open_int Yba.underlying5 (hval 2 5 v2 rfl rfl) h2
  clear hA0 hval0
  refine (walk a0 a1 len0 cap0 len1 cap1 ps zs a2 W e0 e1 m0 m1 w0 w1 b1 (bounds_u8 w2).1 (bounds_u8 w2).2).mono fun e W' ⟨he, bel⟩ => ?_
  subst he
  exact ⟨_, rfl, _, _, _, [], _, [], hW', trodAll_mk1 (shut_bool Yba.underlying4 _), (trodAll_cons_mk (Below.trod laidOut (by kernel_rfl) (of_decide_eq_true (by kernel_rfl)) k0 bel lt0) (trodAll_cons_mk (Below.trod laidOut (by kernel_rfl) (of_decide_eq_true (by kernel_rfl)) k1 bel lt1) (trodAll_cons_mk (shut_int Yba.underlying5 w2) trodAll_mk0))), rfl, bel.frame _, fun h => by cases h⟩

theorem over : Rows.lawS4505CReadsRow.holds Yba.pinned (OpenSpec.ofChange Rows.lawS4505CReadsSpec) :=
  OpenClaim.holds_of_wide 5 Yba.f5 rfl rfl rfl rfl rfl rfl rfl ⟨rfl, rfl, rfl, rfl, rfl⟩ rfl rfl rfl rfl rfl (by kernel_rfl) Yba.func5 (by kernel_rfl)
    (of_decide_eq_true (by kernel_rfl)) (by unfold Func.isWrapper; first | (rw [if_pos (by decide +kernel)]; kernel_rfl) | (rw [if_neg (by decide +kernel)]; exact ⟨rfl, rfl⟩))
    (fun os started H enc _ => lifted os started H enc)

theorem proved : Rows.LawS4505CReadsSaid := over
#print axioms proved
end Go.Proofs.Ybulkcogu.lawS4505CReads
