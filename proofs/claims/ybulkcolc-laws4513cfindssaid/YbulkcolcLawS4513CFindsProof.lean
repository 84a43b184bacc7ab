/-
  The proof of Rows.LawS4513CFindsSaid.
-/
import Derived.Test.YbulkcolcLaw
import Derived.WalkKit
import Derived.ProofKit
import Derived.OpenShut
import Derived.ShutString
import Derived.ChangeOld
import Derived.Below
import Derived.Deep.SlicePairs
namespace Go.Proofs.Ybulkcolc.lawS4513CFinds
open Go.ChangeShapes Go.WideShapes Go.ChangeAt Go.RowKit
open Go.ChangeMaps (open_string shut_string)
open Go.Deep (open_slice_pairs choose_lt)
set_option linter.unusedVariables false
set_option linter.unusedSimpArgs false

theorem own : ownKnob Yba.prog.godebug = none := by kernel_rfl
theorem laidOut : laidOutB Yba.prog = true := by kernel_rfl

theorem addr_lit {w : World} {x : Addr} {v : Value} (h : w.cell? (x.add 0) = some v) : x = ⟨x.block, x.off, none⟩ := by
  obtain ⟨b, o, sp⟩ := x
  cases sp with
  | none => rfl
  | some k => simp [Addr.add, World.cell?] at h; split at h <;> simp at h

/-- One token: its kind, its body's slice and the body's bytes. -/
structure Tok where
  kd : Int
  ba : Option Addr
  bl : Nat
  bc : Nat
  yb : Nat → Int

structure TokAt (W : World) (v0 v1 : Value) (t : Tok) : Prop where
  k : v0 = .int .u8 t.kd
  b : v1 = .slice t.ba t.bl t.bc
  c : ∀ i, i < t.bl → ∃ bb bo, t.ba = some ⟨bb, bo, none⟩ ∧ W.cell? ⟨bb, bo + i, none⟩ = some (.int .u8 (t.yb i))
  kr : 0 ≤ t.kd ∧ t.kd ≤ 255
  br : ∀ i, i < t.bl → 0 ≤ t.yb i ∧ t.yb i ≤ 255
  m : t.bl ≤ maxLen

set_option maxRecDepth 100000 in
theorem lifted (os : Os) (started : os.Started) (H : Type) (enc : TypeId × Value → H) :
    ReturnsInHanded {} Yba.checked os 4 .any (Rows.lawS4513CFindsSpec.pre6 enc Yba.prog Yba.f4 Rows.lawS4513CFindsRow.domain false) (Rows.lawS4513CFindsSpec.post enc Yba.prog Yba.f4 false true false false) := by
  refine returnsInHanded_of_change (C := Yba.checked) own started (by kernel_rfl) Yba.func4
    (ChangeSpec.witness6 (enc := enc) (C := Yba.checked) false ⟨#[], #[.slice none 0 0, .bool false, .bool false], []⟩ 8 (by kernel_rfl) (by kernel_rfl) (by kernel_rfl) (by kernel_rfl)) ?_
  intro W base args ds gs before hval0 hW hcnd _
  have hval : ∀ (j : Nat) t v, Yba.f4.params[j]? = some t → args[j]? = some v → Value.okWide Yba.prog W .any base t v := hval0
  have hW' := hW
  obtain ⟨p, q, hA0, hV, rfl, hfz, hnd⟩ := hW
  have hA : DataW.TrodAll enc Yba.prog W 0 (fun _ => true) true Yba.f4.params.toList args.toList ds p := hA0
  rw [Yba.params4] at hA hval
  obtain ⟨v0, vs0, d0, ds0, p0, q0, hargs, rfl, rfl, h0, r0⟩ := trodAll_cons hA
  obtain ⟨v1, vs1, d1, ds1, p1, q1, rfl, rfl, rfl, h1, r1⟩ := trodAll_cons r0
  obtain ⟨v2, vs2, d2, ds2, p2, q2, rfl, rfl, rfl, h2, r2⟩ := trodAll_cons r1
  obtain ⟨rfl, rfl, rfl⟩ := trodAll_nil r2
  obtain rfl : args = #[v0, v1, v2] := by cases args; simp_all
  obtain ⟨rfl, rfl⟩ := trodVars_none hV
  obtain ⟨a0, len0, cap0, rfl⟩ := okWide_slice Yba.underlying34 (hval 0 34 v0 rfl rfl)
  have k0 := h0
  have lt0 : ∀ x ∈ p0, x.block < W.heap.size := by obtain ⟨m, hm⟩ := k0; exact DataW.trod_lt m _ _ _ hm
  obtain ⟨tk, o, kd, ba, bl, bc, yb, ha, hT, hbl, hlen⟩ : ∃ (tk o : Nat) (kd : Nat → Int) (ba : Nat → Option Addr) (bl bc : Nat → Nat) (yb : Nat → Nat → Int), (0 < len0 → a0 = some ⟨tk, o, none⟩) ∧ Toks W len0 tk o kd ba bl bc yb ∧ (∀ j, j < len0 → bl j ≤ 9223372036854775807) ∧ len0 ≤ 9223372036854775807 := by
    obtain ⟨fuel, hf⟩ := h0
    rcases open_slice_pairs Yba.underlying34 Yba.underlying36 (by kernel_rfl) rfl rfl (by kernel_rfl) (by kernel_rfl) hf with ⟨hcs, _⟩ | ⟨x, l, c, m, n, V0, V1, D0, D1, P0, P1, hcs, _, hl, hm, hmm, _, hx⟩
    · simp [Value.cells] at hcs
      obtain ⟨rfl, rfl, rfl⟩ := hcs
      exact ⟨0, 0, fun _ => 0, fun _ => none, fun _ => 0, fun _ => 0, fun _ _ => 0, fun h => by omega, ⟨fun j hj => by omega, fun j hj => by omega, fun j i hj => by omega, fun j hj => by omega, fun j i hj => by omega⟩, fun j hj => by omega, by omega⟩
    · simp [Value.cells] at hcs
      obtain ⟨rfl, rfl, rfl⟩ := hcs
      simp only [if_true] at hmm
      subst hmm
      have inh : Inhabited Tok := ⟨⟨0, none, 0, 0, fun _ => 0⟩⟩
      obtain ⟨f, hf⟩ := choose_lt (α := Tok) (n := m) (p := fun i t => TokAt W (V0 i) (V1 i) t) (fun i hi => by
        obtain ⟨_, _, g1, g2⟩ := hx i hi
        obtain ⟨z, hz, _, wz⟩ := DataW.trod_int Yba.underlying5 g1
        have hz0 : V0 i = .int .u8 z := by simpa using hz
        rcases open_ints Yba.underlying22 Yba.underlying5 (by kernel_rfl) g2 with ⟨hcs, _⟩ | ⟨y, l, c, zs, hcs, _, hl, hm, hzl, _, hcell, hwz⟩
        · exact ⟨⟨z, none, 0, 0, fun _ => 0⟩, hz0, by simpa using hcs, fun i hi => absurd hi (Nat.not_lt_zero _), bounds_u8 wz, fun i hi => absurd hi (Nat.not_lt_zero _), Nat.zero_le _⟩
        · have hz' : zs.length = c := by simpa using hzl
          refine ⟨⟨z, some y, l, c, fun i => zs.getD i 0⟩, hz0, by simpa using hcs, fun i hi => ?_, bounds_u8 wz, fun i hi => ?_, Nat.le_trans hl hm⟩
          · have hi' : i < l := hi
            have hy := addr_lit (hcell 0 (by omega))
            refine ⟨y.block, y.off, by rw [← hy], ?_⟩
            have h1 := hcell i (by omega)
            rw [hy, Addr.add_lit] at h1
            exact h1
          · have hi' : i < l := hi
            have hk' : i < zs.length := by omega
            have e : zs.getD i 0 = zs[i] := by simp [List.getD, hk']
            show 0 ≤ zs.getD i 0 ∧ zs.getD i 0 ≤ 255
            rw [e]
            exact bounds_u8 (hwz _ (List.getElem_mem hk')))
      have hmx : m ≤ maxLen := hm
      have hlm : len0 ≤ m := hl
      by_cases h0 : len0 = 0
      · subst h0
        exact ⟨0, 0, fun _ => 0, fun _ => none, fun _ => 0, fun _ => 0, fun _ _ => 0, fun h => by omega, ⟨fun j hj => by omega, fun j hj => by omega, fun j i hj => by omega, fun j hj => by omega, fun j i hj => by omega⟩, fun j hj => by omega, by omega⟩
      · have hxl := addr_lit (hx 0 (by omega)).1
        refine ⟨x.block, x.off, fun j => (f j).kd, fun j => (f j).ba, fun j => (f j).bl, fun j => (f j).bc, fun j => (f j).yb, fun _ => by rw [← hxl], ⟨fun j hj => ?_, fun j hj => ?_, fun j i hj hi => (hf j (by omega)).c i hi, fun j hj => (hf j (by omega)).kr, fun j i hj hi => (hf j (by omega)).br i hi⟩, fun j hj => ?_, ?_⟩
        · obtain ⟨c0, _, _, _⟩ := hx j (by omega)
          rw [hxl, Addr.add_lit, (hf j (by omega)).k] at c0
          exact c0
        · obtain ⟨_, c1, _, _⟩ := hx j (by omega)
          rw [hxl, Addr.add_lit, (hf j (by omega)).b] at c1
          rw [Nat.add_assoc]
          exact c1
        · have := (hf j (by omega)).m
          unfold maxLen at this
          omega
        · unfold maxLen at hmx
          omega
  obtain ⟨b1, rfl, rfl, rfl⟩ := open_bool Yba.underlying4 (hval 1 4 v1 rfl rfl) h1
  obtain ⟨b2, rfl, rfl, rfl⟩ := open_bool Yba.underlying4 (hval 2 4 v2 rfl rfl) h2
  clear hA0 hval0
  refine (law_any a0 len0 tk o cap0 kd ba bl bc yb b1 b2 W ha hT hbl hlen).mono fun e W' ⟨he, bel⟩ => ?_
  subst he
  exact ⟨_, rfl, _, _, _, [], _, [], hW', trodAll_mk1 (shut_bool Yba.underlying4 _), (trodAll_cons_mk (Below.trod laidOut (by kernel_rfl) (of_decide_eq_true (by kernel_rfl)) k0 bel lt0) (trodAll_cons_mk (shut_bool Yba.underlying4 _) (trodAll_cons_mk (shut_bool Yba.underlying4 _) trodAll_mk0))), rfl, bel.frame _, fun h => by cases h⟩

theorem over : Rows.lawS4513CFindsRow.holds Yba.pinned (OpenSpec.ofChange Rows.lawS4513CFindsSpec) :=
  OpenClaim.holds_of_wide 4 Yba.f4 rfl rfl rfl rfl rfl rfl rfl ⟨rfl, rfl, rfl, rfl, rfl⟩ rfl rfl rfl rfl rfl (by kernel_rfl) Yba.func4 (by kernel_rfl)
    (of_decide_eq_true (by kernel_rfl)) (by unfold Func.isWrapper; first | (rw [if_pos (by decide +kernel)]; kernel_rfl) | (rw [if_neg (by decide +kernel)]; exact ⟨rfl, rfl⟩))
    (fun os started H enc _ => lifted os started H enc)

theorem proved : Rows.LawS4513CFindsSaid := over
#print axioms proved
end Go.Proofs.Ybulkcolc.lawS4513CFinds
