/-
  The proof of Rows.LawS4505AReplayCardSaid.
-/
import Derived.Test.YbulkcoguDoorCards
import Derived.Test.YbulkcoguDoorTie
import Derived.Test.YbulkcoguDoorLawReplay
import Derived.WalkKit
import Derived.ProofKit
import Derived.OpenShut
import Derived.LaidMore
import Derived.Lay
import Derived.SevenTiedAt
import Derived.Stop.Joined
import Derived.ChangeOld
import Derived.Below
namespace Go.Proofs.YbulkcoguDoor.lawS4505AReplay
open Go.ChangeShapes Go.WideShapes Go.ChangeAt Go.RowKit
set_option linter.unusedVariables false
set_option linter.unusedSimpArgs false

theorem own : ownKnob Ybad.prog.godebug = none := by kernel_rfl
theorem laidOut : laidOutB Ybad.prog = true := by kernel_rfl

theorem tab_cells {W : World} (h : laidMetH Ybad.prog Rows.lawS4505AReplayRow.laid W) : TabAt 0 Lib.deBruijn64tab W := by
  rw [MakeChecks.laidMetH_plain _ _ _ (by kernel_rfl)] at h
  obtain ⟨ps, ⟨g, t, cs, fuel, p, q, hg, ht, hv, hd, _, _⟩, _, _⟩ := h
  obtain rfl := Option.some.inj (show some 0 = some g from Eq.trans (by kernel_rfl) hg)
  obtain rfl := Option.some.inj ((show (Ybad.prog.globals[0]?).map (·.type) = some 81 by kernel_rfl).symm.trans ht)
  obtain ⟨xs, m, _, ex, _, hl, hel⟩ := DataW.trod_array Ybad.underlying81 hd
  have c5 : Ybad.prog.cellsOf 5 = 1 := by kernel_rfl
  intro r hr0
  have hlen : Lib.deBruijn64tab.length = 64 := by kernel_rfl
  have hr : r < 64 := by omega
  have hE := hel r hr
  rw [c5, Nat.mul_one, List.getElem?_eq_getElem (by omega)] at hE
  obtain ⟨z, e1, e2, _⟩ := DataW.trod_int Ybad.underlying5 hE
  have e3 : (xs.map (·.1)) = Lib.deBruijn64tab.map fun n => .lit (.int .u8 (n : Nat)) := (DataW.agg.inj (Prod.mk.inj ex).1).symm
  have e4 : (xs.map (·.1))[r]? = (Lib.deBruijn64tab.map fun n => (DataW.lit (.int .u8 (n : Nat)) : DataW Unit))[r]? := by rw [e3]
  rw [List.getElem?_map, List.getElem?_map, List.getElem?_eq_getElem (by omega : r < xs.length), List.getElem?_eq_getElem (by omega : r < Lib.deBruijn64tab.length), e2] at e4
  have hz : z = (Lib.deBruijn64tab.getD r 0 : Nat) := by
    simp only [Option.map_some, Option.some.injEq, DataW.lit.injEq, Lit.int.injEq, true_and] at e4
    rw [e4, List.getD, List.getElem?_eq_getElem (by omega : r < Lib.deBruijn64tab.length)]; rfl
  rw [World.var?_cell hg hv r, ← hz]
  have : cs.toList[r]? = some (.int .u8 z) := by
    have h0 : ((cs.toList.drop r).take 1)[0]? = some (.int .u8 z) := by rw [e1]; rfl
    simpa using h0
  simpa using this

theorem addr_lit {w : World} {x : Addr} {v : Value} (h : w.cell? (x.add 0) = some v) : x = ⟨x.block, x.off, none⟩ := by
  obtain ⟨b, o, sp⟩ := x
  cases sp with
  | none => rfl
  | some k => simp [Addr.add, World.cell?] at h; split at h <;> simp at h

/-- A cell of a slice that was handed in. -/
theorem cell_at {w : World} {x : Addr} {q : IntKind} {zs : List Int} (hc : ∀ i, i < zs.length → w.cell? (x.add i) = some (.int q (zs.getD i 0))) {i : Nat} (hi : i < zs.length) : ∃ b o, some x = some ⟨b, o, none⟩ ∧ b < w.heap.size ∧ w.cell? ⟨b, o + i, none⟩ = some (.int q (zs.getD i 0)) := by
  have hx := addr_lit (hc 0 (by omega))
  have h1 := hc i hi
  rw [hx, Addr.add_lit] at h1
  exact ⟨x.block, x.off, by rw [← hx], World.block_lt_of_cell? w ⟨x.block, x.off + i, none⟩ h1, h1⟩

theorem nats_at {zs : List Int} {len i : Nat} (hl : len ≤ zs.length) (hi : i < ((zs.take len).map Int.toNat).length) : i < zs.length ∧ ((zs.take len).map Int.toNat).getD i 0 = (zs.getD i 0).toNat := by
  simp at hi
  have h1 : i < zs.length := by omega
  have h2 : i < len := by omega
  refine ⟨h1, ?_⟩
  simp [List.getD, h1, h2]

theorem bytes_of {w : World} {x : Addr} {len : Nat} {zs : List Int} (hl : len ≤ zs.length) (hc : ∀ i, i < zs.length → w.cell? (x.add i) = some (.int .u8 (zs.getD i 0))) (hw : ∀ z ∈ zs, (Lit.int .u8 z).wf = true) : AtB8 w (some x) ((zs.take len).map Int.toNat) := by
  intro i hi
  obtain ⟨h1, h2⟩ := nats_at hl hi
  obtain ⟨b, o, e1, e2, e3⟩ := cell_at hc h1
  have hb := bounds_u8 (hw zs[i] (List.getElem_mem h1))
  have e4 : zs.getD i 0 = zs[i] := by simp [List.getD, h1]
  refine ⟨b, o, e1, e2, by rw [h2, e4]; omega, ?_⟩
  rw [e3, h2, e4, Int.toNat_of_nonneg hb.1]

theorem words_of {w : World} {x : Addr} {len : Nat} {zs : List Int} (hl : len ≤ zs.length) (hc : ∀ i, i < zs.length → w.cell? (x.add i) = some (.int .u64 (zs.getD i 0))) (hw : ∀ z ∈ zs, (Lit.int .u64 z).wf = true) : AtU64 w (some x) ((zs.take len).map Int.toNat) := by
  intro i hi
  obtain ⟨h1, h2⟩ := nats_at hl hi
  obtain ⟨b, o, e1, e2, e3⟩ := cell_at hc h1
  have hb := bounds_u64 (hw zs[i] (List.getElem_mem h1))
  have e4 : zs.getD i 0 = zs[i] := by simp [List.getD, h1]
  refine ⟨b, o, e1, e2, by rw [h2, e4]; omega, ?_⟩
  rw [e3, h2, e4, Int.toNat_of_nonneg hb.1]

theorem smalls_of {w : World} {x : Addr} {len : Nat} {zs : List Int} (hl : len ≤ zs.length) (hc : ∀ i, i < zs.length → w.cell? (x.add i) = some (.int .i8 (zs.getD i 0))) (hw : ∀ z ∈ zs, (Lit.int .i8 z).wf = true) : AtI8 w (some x) (zs.take len) := by
  intro i hi
  simp at hi
  have h1 : i < zs.length := by omega
  have h2 : i < len := by omega
  obtain ⟨b, o, e1, e2, e3⟩ := cell_at hc h1
  have hb := bounds_i8 (hw zs[i] (List.getElem_mem h1))
  have e4 : zs.getD i 0 = zs[i] := by simp [List.getD, h1]
  have e5 : (zs.take len).getD i 0 = zs.getD i 0 := by simp [List.getD, h1, h2]
  refine ⟨b, o, e1, e2, by rw [e5, e4]; exact hb, ?_⟩
  rw [e3, e5]

set_option maxRecDepth 100000 in
theorem lifted (os : Os) (started : os.Started) (H : Type) (enc : TypeId × Value → H) :
    ReturnsInHanded {} Ybad.checked os 4 .any (fun w args => (Rows.lawS4505AReplaySpec.pre enc Ybad.prog Ybad.f4 Rows.lawS4505AReplayRow.domain false w args ∧ laidMetH Ybad.prog Rows.lawS4505AReplayRow.laid w) ∧ sizedMet enc Ybad.prog Ybad.f4 (OpenSpec.ofChange Rows.lawS4505AReplaySpec) false w args)
      (Rows.lawS4505AReplaySpec.post enc Ybad.prog Ybad.f4 false true false false) := by
  refine returnsInHanded_of_change_and (C := Ybad.checked) (X := fun w _ => laidMetH Ybad.prog Rows.lawS4505AReplayRow.laid w) (fun _ _ _ hh h => h.of_heap hh) own started (by kernel_rfl) Ybad.func4
    (ChangeSpec.witness_shaped (enc := enc) (C := Ybad.checked) (os := os) (X := fun w _ => laidMetH Ybad.prog Rows.lawS4505AReplayRow.laid w) false (World.laidAll Ybad.prog os Rows.lawS4505AReplayRow.laid) #[.int .u8 0, .int .u8 0, .slice none 0 0, .slice none 0 0, .slice none 0 0, .slice none 0 0] 8 (World.laidAll_os _ _ _)
      (World.shaped_of_ZipB (by kernel_rfl) (by kernel_rfl)) (by kernel_rfl) (by kernel_rfl) (by kernel_rfl)
      (by rw [MakeChecks.laidMetH_plain _ _ _ (by kernel_rfl)]; exact laidMet_laidAll _ (by kernel_rfl) (by kernel_rfl))) ?_
  intro W base args ds gs before hval0 hW hcnd _ hL _
  have hval : ∀ (j : Nat) t v, Ybad.f4.params[j]? = some t → args[j]? = some v → Value.okWide Ybad.prog W .any base t v := hval0
  have hW' := hW
  obtain ⟨p, q, hA0, hV, rfl, hfz, hnd⟩ := hW
  have hA : DataW.TrodAll enc Ybad.prog W 0 (fun _ => true) true Ybad.f4.params.toList args.toList ds p := hA0
  rw [Ybad.params4] at hA hval
  obtain ⟨v0, vs0, d0, ds0, p0, q0, hargs, rfl, rfl, h0, r0⟩ := trodAll_cons hA
  obtain ⟨v1, vs1, d1, ds1, p1, q1, rfl, rfl, rfl, h1, r1⟩ := trodAll_cons r0
  obtain ⟨v2, vs2, d2, ds2, p2, q2, rfl, rfl, rfl, h2, r2⟩ := trodAll_cons r1
  obtain ⟨v3, vs3, d3, ds3, p3, q3, rfl, rfl, rfl, h3, r3⟩ := trodAll_cons r2
  obtain ⟨v4, vs4, d4, ds4, p4, q4, rfl, rfl, rfl, h4, r4⟩ := trodAll_cons r3
  obtain ⟨v5, vs5, d5, ds5, p5, q5, rfl, rfl, rfl, h5, r5⟩ := trodAll_cons r4
  obtain ⟨rfl, rfl, rfl⟩ := trodAll_nil r5
  obtain rfl : args = #[v0, v1, v2, v3, v4, v5] := by cases args; simp_all
  obtain ⟨rfl, rfl⟩ := trodVars_none hV
  obtain ⟨n0, rfl, rfl, rfl, w0⟩ := open_int Ybad.underlying5 (hval 0 5 v0 rfl rfl) h0
  obtain ⟨n1, rfl, rfl, rfl, w1⟩ := open_int Ybad.underlying5 (hval 1 5 v1 rfl rfl) h1
  obtain ⟨a2, len2, cap2, rfl⟩ := okWide_slice Ybad.underlying22 (hval 2 22 v2 rfl rfl)
  have k2 := h2
  have lt2 : ∀ x ∈ p2, x.block < W.heap.size := by obtain ⟨m, hm⟩ := k2; exact DataW.trod_lt m _ _ _ hm
  obtain ⟨rm, e2, t2⟩ : ∃ xs : List Nat, xs.length = len2 ∧ AtB8 W a2 xs := by
    obtain ⟨fuel, hf⟩ := h2
    rcases open_ints Ybad.underlying22 Ybad.underlying5 (by kernel_rfl) hf with ⟨hcs, _⟩ | ⟨x, l, c, zs, hcs, _, hl, hm, hz, _, hcell, hwz⟩
    · simp [Value.cells] at hcs
      obtain ⟨rfl, rfl, rfl⟩ := hcs
      exact ⟨[], rfl, fun i hi => by simp at hi⟩
    · simp [Value.cells] at hcs
      obtain ⟨rfl, rfl, rfl⟩ := hcs
      have hz' : zs.length = cap2 := by simpa using hz
      have hl' : len2 ≤ cap2 := by simpa using hl
      exact ⟨(zs.take len2).map Int.toNat, by simp; omega, bytes_of (by omega) hcell hwz⟩
  obtain ⟨a3, len3, cap3, rfl⟩ := okWide_slice Ybad.underlying23 (hval 3 23 v3 rfl rfl)
  have k3 := h3
  have lt3 : ∀ x ∈ p3, x.block < W.heap.size := by obtain ⟨m, hm⟩ := k3; exact DataW.trod_lt m _ _ _ hm
  obtain ⟨ad, e3, t3⟩ : ∃ xs : List Nat, xs.length = len3 ∧ AtU64 W a3 xs := by
    obtain ⟨fuel, hf⟩ := h3
    rcases open_ints Ybad.underlying23 Ybad.underlying49 (by kernel_rfl) hf with ⟨hcs, _⟩ | ⟨x, l, c, zs, hcs, _, hl, hm, hz, _, hcell, hwz⟩
    · simp [Value.cells] at hcs
      obtain ⟨rfl, rfl, rfl⟩ := hcs
      exact ⟨[], rfl, fun i hi => by simp at hi⟩
    · simp [Value.cells] at hcs
      obtain ⟨rfl, rfl, rfl⟩ := hcs
      have hz' : zs.length = cap3 := by simpa using hz
      have hl' : len3 ≤ cap3 := by simpa using hl
      exact ⟨(zs.take len3).map Int.toNat, by simp; omega, words_of (by omega) hcell hwz⟩
  obtain ⟨a4, len4, cap4, rfl⟩ := okWide_slice Ybad.underlying24 (hval 4 24 v4 rfl rfl)
  have k4 := h4
  have lt4 : ∀ x ∈ p4, x.block < W.heap.size := by obtain ⟨m, hm⟩ := k4; exact DataW.trod_lt m _ _ _ hm
  obtain ⟨wa, e4, t4⟩ : ∃ xs : List Int, xs.length = len4 ∧ AtI8 W a4 xs := by
    obtain ⟨fuel, hf⟩ := h4
    rcases open_ints Ybad.underlying24 Ybad.underlying52 (by kernel_rfl) hf with ⟨hcs, _⟩ | ⟨x, l, c, zs, hcs, _, hl, hm, hz, _, hcell, hwz⟩
    · simp [Value.cells] at hcs
      obtain ⟨rfl, rfl, rfl⟩ := hcs
      exact ⟨[], rfl, fun i hi => by simp at hi⟩
    · simp [Value.cells] at hcs
      obtain ⟨rfl, rfl, rfl⟩ := hcs
      have hz' : zs.length = cap4 := by simpa using hz
      have hl' : len4 ≤ cap4 := by simpa using hl
      exact ⟨zs.take len4, by simp; omega, smalls_of (by omega) hcell hwz⟩
  obtain ⟨a5, len5, cap5, rfl⟩ := okWide_slice Ybad.underlying22 (hval 5 22 v5 rfl rfl)
  have k5 := h5
  have lt5 : ∀ x ∈ p5, x.block < W.heap.size := by obtain ⟨m, hm⟩ := k5; exact DataW.trod_lt m _ _ _ hm
  obtain ⟨raw, e5, t5, hc5⟩ : ∃ xs : List Nat, xs.length = len5 ∧ AtB8 W a5 xs ∧ len5 ≤ cap5 := by
    obtain ⟨fuel, hf⟩ := h5
    rcases open_ints Ybad.underlying22 Ybad.underlying5 (by kernel_rfl) hf with ⟨hcs, _⟩ | ⟨x, l, c, zs, hcs, _, hl, hm, hz, _, hcell, hwz⟩
    · simp [Value.cells] at hcs
      obtain ⟨rfl, rfl, rfl⟩ := hcs
      exact ⟨[], rfl, fun i hi => by simp at hi, Nat.le_refl _⟩
    · simp [Value.cells] at hcs
      obtain ⟨rfl, rfl, rfl⟩ := hcs
      have hz' : zs.length = cap5 := by simpa using hz
      have hl' : len5 ≤ cap5 := by simpa using hl
      exact ⟨(zs.take len5).map Int.toNat, by simp; omega, bytes_of (by omega) hcell hwz, by omega⟩
  have htab := tab_cells hL
  have hpos : 0 < W.heap.size := World.block_lt_of_cell? W ⟨0, 0, none⟩ (htab 0 (by decide))
  have b0 := bounds_u8 w0
  have b1 := bounds_u8 w1
  obtain ⟨mr, rfl⟩ : ∃ r : Nat, n0 = r := ⟨n0.toNat, by omega⟩
  obtain ⟨sr, rfl⟩ : ∃ r : Nat, n1 = r := ⟨n1.toNat, by omega⟩
  clear hA0 hval0
  subst e2 e3 e4 e5
  have walk : Calls Ybad.prog 4 #[.int .u8 mr, .int .u8 sr, .slice a2 rm.length cap2, .slice a3 ad.length cap3, .slice a4 wa.length cap4, .slice a5 raw.length cap5] W fun e w' => e = .returned (.bool true) ∧ Below W.heap.size W w' := by
    by_cases hlong : 1024 < raw.length
    · exact replay_long mr sr a2 a3 a4 a5 _ _ _ _ _ _ _ _ W hlong
    · exact replay_some mr sr (by omega) (by omega) rm ad wa raw a2 a3 a4 a5 cap2 cap3 cap4 cap5 W t2 t3 t4 t5 (by omega) hc5 htab hpos
  refine walk.mono fun e W' ⟨he, bel⟩ => ?_
  subst he
  exact ⟨_, rfl, _, _, _, [], _, [], hW', trodAll_mk1 (shut_bool Ybad.underlying4 _), (trodAll_cons_mk (shut_int Ybad.underlying5 w0) (trodAll_cons_mk (shut_int Ybad.underlying5 w1) (trodAll_cons_mk (Below.trod laidOut (by kernel_rfl) (of_decide_eq_true (by kernel_rfl)) k2 bel lt2) (trodAll_cons_mk (Below.trod laidOut (by kernel_rfl) (of_decide_eq_true (by kernel_rfl)) k3 bel lt3) (trodAll_cons_mk (Below.trod laidOut (by kernel_rfl) (of_decide_eq_true (by kernel_rfl)) k4 bel lt4) (trodAll_cons_mk (Below.trod laidOut (by kernel_rfl) (of_decide_eq_true (by kernel_rfl)) k5 bel lt5) trodAll_mk0)))))), rfl, bel.frame _, fun h => by cases h⟩

theorem holds : Rows.LawS4505AReplaySaid :=
  OpenClaim.holds_of_wide 4 Ybad.f4 rfl rfl rfl rfl rfl rfl rfl ⟨rfl, rfl, rfl, rfl, rfl⟩ rfl rfl rfl rfl rfl (by kernel_rfl) Ybad.func4 (by kernel_rfl)
    (of_decide_eq_true (by kernel_rfl)) (by unfold Func.isWrapper; first | (rw [if_pos (by decide +kernel)]; kernel_rfl) | (rw [if_neg (by decide +kernel)]; exact ⟨rfl, rfl⟩))
    (fun os started H enc _ => lifted os started H enc)

theorem proved : Rows.LawS4505AReplayCardSaid :=
  Claim7.holds_tied_plain_at .later [] [.data] true (true, "bb1d453083d9742f6f4f268e406bf975dc28af4ffb8705fc9c841ebaa73be666") false holds (fun _ h => by cases h) (by kernel_rfl) (fun _ h => by cases h) lawS4505AReplay_row_tie rfl ⟨rfl, rfl⟩ (by kernel_rfl) rfl
    (fun f fn hf hfn => by
      obtain rfl : f = 4 := Option.some.inj ((show Ybad.prog.funcNamed Rows.lawS4505AReplayRow.func = some 4 by kernel_rfl).symm.trans hf) |>.symm
      obtain rfl : fn = Ybad.f4 := (Option.some.inj (Ybad.func4.symm.trans hfn)).symm
      exact ⟨by kernel_rfl, fun j t ht => by
        rw [Ybad.params4] at ht
        have hm : t ∈ [5, 5, 22, 23, 24, 22] := by simpa using Array.mem_of_getElem? ht
        have hall : ([5, 5, 22, 23, 24, 22].all fun u => !Ybad.prog.wantsStandIn u) = true := by kernel_rfl
        exact (show Ybad.prog.wantsStandIn t = false by simpa using List.all_eq_true.1 hall t hm)⟩)
    (by kernel_rfl)
#print axioms proved
end Go.Proofs.YbulkcoguDoor.lawS4505AReplay
