import Derived.Test.YbulkcoguUntried
import Derived.Test.YbulkcoguLast
import Derived.Laws.CopyOwn
import Derived.Deep.RegionHeld3
import Derived.Deep.AppendLies
import Derived.Deep.RegionLaw
import Derived.Deep.DrawnRows
namespace Go.Proofs.Ybulkcogu
open Go.RowKit Go.Deep
set_option linter.unusedVariables false
set_option linter.unusedSimpArgs false

/-- The slice of bools at a reads as ps. -/
def AtB (w : World) (a : Option Addr) (ps : List Bool) : Prop := ∀ i, i < ps.length → ∃ b o, a = some ⟨b, o, none⟩ ∧ w.cell? ⟨b, o + i, none⟩ = some (.bool (ps.getD i false))

/-- The slice of bytes at a reads as zs. -/
def AtU (w : World) (a : Option Addr) (zs : List Int) : Prop := ∀ i, i < zs.length → ∃ b o, a = some ⟨b, o, none⟩ ∧ w.cell? ⟨b, o + i, none⟩ = some (.int .u8 (zs.getD i 0))

theorem Yba.size4 : (Yba.prog.info? 4).map (·.size) = some 1 := by kernel_rfl
theorem Yba.info59 : (Yba.prog.info? 59).map (fun i => (i.zero, i.size, i.bytes)) = some (some (.agg #[.int .i64 0, .int .i64 0]), 2, 16) := by kernel_rfl

/-- w' is w but for block g. -/
structure But (g : Nat) (w w' : World) : Prop where
  os : w'.os = w.os
  tape : w'.tape = w.tape
  output : w'.output = w.output
  size : w'.heap.size = w.heap.size
  other : ∀ k, k ≠ g → w'.heap[k]? = w.heap[k]?

theorem But.below {g : Nat} {w w' : World} (h : But g w w') {B : Nat} (hB : B ≤ g) : Below B w w' :=
  ⟨h.os, h.tape, h.output, Nat.le_of_eq h.size.symm, fun k hk => h.other k (by omega)⟩

/-- copy into a row of the call's own, nil sources too. -/
theorem wpList_copy_but {P : Program} {w : World} {ops : Array Oper} {rest : List Oper} {o : Oper} {a : Act} {Q : Exit → Act → World → Prop} (hgd : o.guard = none) (d s : Operand) (dT sT : TypeId)
    (ho : o.op = .call { callee := .builtin .copy, args := #[d, s], argTypes := #[dT, sT] }) (elem : TypeId) (hu : P.underlying dT = some (.slice elem)) (hsz : (P.info? elem).map (·.size) = some 1)
    (g : Nat) (sp : Option Addr) (dLen dCap sLen sCap : Nat) (hd : a.eval d = .slice (some ⟨g, 0, none⟩) dLen dCap) (hs : a.eval s = .slice sp sLen sCap)
    (cur : List Value) (t : TypeId) (hg : w.heap[g]? = some (.cells cur.toArray t (0, 0))) (cs : List Value) (hn : cs.length = Nat.min sLen dLen)
    (hpos : ∀ j v, cs[j]? = some v → ∃ ad, sp = some ad ∧ w.cell? (ad.add j) = some v)
    (hfit : cs.length ≤ cur.length) (h1 : ∀ v ∈ cs, v.oneCell' = true)
    (h : ∀ w', Hid (w'.heap[g]? = some (.cells (splice cur 0 cs).toArray t (0, 0))) → But g w w' → wpList P ops Q rest (a.put o.dst (goInt cs.length)) w') :
    wpList P ops Q (o :: rest) a w := by
  by_cases h0 : cs.length = 0
  · obtain rfl : cs = [] := List.eq_nil_of_length_eq_zero h0
    refine wpList_copy_nothing hgd d s dT sT ho elem hu hsz _ sp dLen dCap sLen sCap hd hs (by simpa using hn.symm) ?_
    exact h w (show _ = _ by simpa [splice] using hg) ⟨rfl, rfl, rfl, rfl, fun _ _ => rfl⟩
  · have hlt : 0 < cs.length := by omega
    obtain ⟨ad, rfl, _⟩ := hpos 0 cs[0] (by simp [hlt])
    refine wpList_copy_own hgd d s dT sT ho elem hu hsz g 0 dLen dCap ad sLen sCap hd hs cur.toArray t hg cs hn (fun j v hv => by obtain ⟨ad', h1, h2⟩ := hpos j v hv; obtain rfl := Option.some.inj h1; exact h2) (by simpa using hfit) h1 ?_
    exact h _ (show _ = _ by simpa [splice] using setRow_heap w g _ _ t _ hg) ⟨rfl, rfl, rfl, by simp [World.setRow], fun k hk => setRow_other w g k _ (by omega)⟩

/-- The placed row behind the copy. -/
def placedCells (ps : List Bool) : Array Value := (splice (madeCells #[Value.bool false] (ps.length + 1)).toList 0 (ps.map Value.bool)).toArray

/-- The first k reads. -/
def froms (n : Nat) (zs : List Int) (k : Nat) : List Int := (zs.take k).map fun z => z % (n + 1) - 1

def flat (fs : List Int) : List Value := fs.flatMap fun f => [Value.int .i64 0, Value.int .i64 f]

theorem froms_succ (n : Nat) (zs : List Int) (k : Nat) (h : k < zs.length) : flat (froms n zs (k + 1)) = flat (froms n zs k) ++ [.int .i64 0, .int .i64 (zs.getD k 0 % (n + 1) - 1)] := by
  have e : zs.getD k 0 = zs[k] := by simp [List.getD, h]
  rw [e]
  unfold flat froms
  rw [List.take_succ_eq_append_getElem h, List.map_append, List.flatMap_append]
  rfl

theorem froms_length (n : Nat) (zs : List Int) (k : Nat) (h : k ≤ zs.length) : (froms n zs k).length = k := by
  simp [froms]; omega

theorem flat_at (fs : List Int) : ∀ k, k < fs.length → (flat fs)[k * 2]? = some (.int .i64 0) ∧ (flat fs)[k * 2 + 1]? = some (.int .i64 (fs.getD k 0)) := by
  induction fs with
  | nil => intro k hk; simp at hk
  | cons f fs ih =>
    intro k hk
    cases k with
    | zero => simp [flat]
    | succ k =>
      obtain ⟨h1, h2⟩ := ih k (by simp at hk; omega)
      have e1 : (k + 1) * 2 = k * 2 + 1 + 1 := by omega
      rw [e1]
      simp [flat] at h1 h2 ⊢
      exact ⟨h1, h2⟩

theorem flat_length (fs : List Int) : (flat fs).length = fs.length * 2 := by
  induction fs with
  | nil => rfl
  | cons f fs ih => simp [flat] at ih ⊢; omega

theorem splice_at (n : Nat) (ps : List Bool) (x : Nat) (hn : n = ps.length + 1) (hx : x < n) :
    (splice (madeCells #[Value.bool false] n).toList 0 (ps.map Value.bool)).toArray[x]? = some (.bool ((ps ++ [false]).getD x false)) := by
  have hd : (madeCells #[Value.bool false] n).toList = List.replicate n (Value.bool false) := by
    apply List.ext_getElem?
    intro j
    by_cases hj : j < n
    · rw [Array.getElem?_toList, made_at _ _ _ hj]; simp [hj]
    · simp [madeCells, hj]
  rw [hd]
  simp only [splice, List.take_zero, List.nil_append, List.getElem?_toArray, List.getD]
  by_cases h : x < ps.length
  · rw [List.getElem?_append_left (by simpa using h), List.getElem?_append_left h]; simp [h]
  · have hxe : x = ps.length := by omega
    subst hxe
    rw [List.getElem?_append_right (by simp), List.getElem?_append_right (by simp)]
    simp [hn]

/-- The first good one. -/
theorem first_good (pl : List Bool) (fs : List Int) : ∃ m, m ≤ fs.length ∧ (∀ j, j < m → good pl (fs.getD j 0) = false) ∧ (m < fs.length → good pl (fs.getD m 0) = true) := by
  induction fs with
  | nil => exact ⟨0, Nat.le_refl _, fun j h => by omega, fun h => by simp at h⟩
  | cons f fs ih =>
    cases hg : good pl f with
    | true => exact ⟨0, Nat.zero_le _, fun j h => by omega, fun _ => by simpa using hg⟩
    | false =>
      obtain ⟨m, h1, h2, h3⟩ := ih
      refine ⟨m + 1, by simp; omega, fun j hj => ?_, fun h => ?_⟩
      · cases j with
        | zero => simpa using hg
        | succ j => have := h2 j (by omega); simpa using this
      · have := h3 (by simp at h; omega); simpa using this

def readRow (n i : Nat) (rv : Value) : Array Value := (madeCells #[Value.slice none 0 0] n).setIfInBounds i rv

theorem setup_of {w wr : World} {n i R Wb rcp : Nat} {ra : Option Addr} {ps : List Bool} {zs : List Int} (hn : n = ps.length + 1) (hin : i < n) (hn2 : n ≤ 2000) (hz : zs.length ≤ 2000)
    (hb : ∀ k, k < zs.length → 0 ≤ zs.getD k 0)
    (hL : Laid w n R Wb (.pointer (some ⟨w.heap.size + 1 + 1 + 1 + 1, 2, none⟩)) (splice (madeCells #[.bool false] n).toList 0 (ps.map Value.bool)).toArray (readRow n i (.slice ra zs.length rcp)) wr)
    (hown : wr.ownsRow (w.heap.size + 7) 59 2 (.slice ra zs.length rcp) zs.length (flat (froms n zs zs.length))) (hG : wr.heap[w.heap.size + 1 + 1 + 1 + 1 + 1]? = some (.cells (fill idf n n) 3 (0, 0)))
    (hLo : wr.heap[w.heap.size + 1 + 1 + 1 + 1 + 1 + 1]? = some (.cells (fill (locf n) n n) 3 (0, 0))) :
    Setup (w.heap.size + 1 + 1 + 1 + 1) (w.heap.size + 1 + 1) R Wb (w.heap.size + 1 + 1 + 1) (w.heap.size + 1 + 1 + 1 + 1 + 1) (w.heap.size + 1 + 1 + 1 + 1 + 1 + 1) n i 0 (froms n zs zs.length) (ps ++ [false]) ra rcp wr := by
  have h2 := hL.two
  have hfl := froms_length n zs zs.length (Nat.le_refl _)
  refine ⟨cell_in hL.search rfl, cell_in hL.search rfl, cell_in hL.search rfl, free_in hL.search, cell_in hL.search rfl, cell_in hL.search rfl, cell_in hL.search rfl, cell_in hL.search rfl, cell_in hL.cons rfl, cell_in hL.cons rfl, ?_, cell_in hL.writes (made_at _ _ _ hin), ?_, fun x hx => cell_in hL.placed (splice_at n ps x hn hx),
    ?_, hin, hn2, by omega, by omega, by omega, ?_, fun x hx => cell_in hLo ?_, by omega, by omega, by omega, by omega, by omega, by omega⟩
  · rw [hfl]; exact cell_in hL.reads (by simp [readRow, madeCells, hin])
  · intro k hk
    rcases hown.2 with ⟨hv, h0⟩ | ⟨g, cap, cur, hv, hg, _⟩
    · omega
    · simp only [Value.slice.injEq] at hv
      obtain ⟨rfl, _, rfl⟩ := hv
      obtain ⟨f1, f2⟩ := flat_at _ k hk
      have c1 := hown.cells (g := g) rfl _ _ f1
      have c2 := hown.cells (g := g) rfl _ _ f2
      rw [Addr.add_lit, Nat.zero_add] at c1 c2
      exact ⟨g, rfl, by omega, c1, c2⟩
  · intro k hk
    rw [hfl] at hk
    have h0 := hb k hk
    have e : (froms n zs zs.length).getD k 0 = zs.getD k 0 % (n + 1) - 1 := by simp [froms, List.getD, hk]
    rw [e]
    have := Int.emod_lt_of_pos (zs.getD k 0) (show (0 : Int) < n + 1 by omega)
    omega
  · refine cell_in hG ?_
    rw [fill_at _ _ _ _ hin, if_pos hin]; rfl
  · rw [fill_at _ _ _ _ hx, if_pos hx]; rfl

set_option maxRecDepth 100000 in
set_option maxHeartbeats 2000000 in
theorem reads_some (a0 a1 : Option Addr) (c0 c1 : Nat) (ps : List Bool) (zs : List Int) (iv : Int) (w : World) (hl0 : ps.length ≤ 1024) (hl1 : zs.length ≤ 1024)
    (h0 : AtB w a0 ps) (h1 : AtU w a1 zs) (hz : ∀ k, k < zs.length → 0 ≤ zs.getD k 0 ∧ zs.getD k 0 ≤ 255) (hi0 : 0 ≤ iv) (hi1 : iv ≤ 255) :
    Calls Yba.prog 5 #[.slice a0 ps.length c0, .slice a1 zs.length c1, .int .u8 iv] w fun e w' => e = .returned (.bool true) ∧ Below w.heap.size w w' := by
  obtain ⟨n, hn⟩ : ∃ n : Nat, n = ps.length + 1 := ⟨_, rfl⟩
  have hnI : (ps.length : Int) + 1 = n := by omega
  obtain ⟨i, hi⟩ : ∃ i : Nat, (i : Int) = iv % n := ⟨(iv % n).toNat, by have := Int.emod_nonneg iv (show (n : Int) ≠ 0 by omega); omega⟩
  have hin : i < n := by have := Int.emod_lt_of_pos iv (show (0 : Int) < n by omega); omega
  have hmod : iv % (n : Int) = i := hi.symm
  have HN : Hid (n = ps.length + 1) := hn
  have hn2 : n ≤ 1025 := by omega
  have hn1 : 1 ≤ n := by omega
  clear hn hi
  have H0 : Hid (AtB w a0 ps) := h0
  have H1 : Hid (AtU w a1 zs) := h1
  have HZ : Hid (∀ k, k < zs.length → 0 ≤ zs.getD k 0 ∧ zs.getD k 0 ≤ 255) := hz
  clear h0 h1 hz
  have hd1 : decide (1024 < (ps.length : Int)) = false := by simp; omega
  have hd2 : decide (1024 < (zs.length : Int)) = false := by simp; omega
  go_enter Yba.func5, Yba.ntmps5
  go_wp2_with fail
  refine (plain_any n w hn1 (by omega)).mono ?_
  rintro e w1 ⟨rfl, R, Wb, hL, hG, hLo⟩
  have c4 : w1.cell? ⟨w.heap.size + 1 + 1 + 1 + 1, 4, none⟩ = some (.slice (some ⟨w.heap.size + 1 + 1 + 1, 0, none⟩) n n) := cell_in hL.search rfl
  have HL : Hid (Laid w n R Wb (.pointer (some ⟨w.heap.size + 1 + 1 + 1 + 1, 2, none⟩)) (madeCells #[.bool false] n) (madeCells #[.slice none 0 0] n) w1) := hL
  have HG : Hid (w1.heap[w.heap.size + 1 + 1 + 1 + 1 + 1]? = some (.cells (fill idf n n) 3 (0, 0))) := hG
  have HLo : Hid (w1.heap[w.heap.size + 1 + 1 + 1 + 1 + 1 + 1]? = some (.cells (fill (locf n) n n) 3 (0, 0))) := hLo
  clear hL hG hLo
  have HPR : Hid (w1.heap[w.heap.size + 1 + 1 + 1]? = some (.cells ((madeCells #[.bool false] n).toList).toArray 4 (0, 0))) := by have := HL.out.placed; show _ = _; simpa using this
  obtain ⟨pbs, hpbs⟩ : ∃ pbs : List Value, pbs = ps.map Value.bool := ⟨_, rfl⟩
  have HPB : Hid (pbs = ps.map Value.bool) := hpbs
  have hpl : pbs.length = ps.length := by rw [hpbs]; simp
  clear hpbs
  have HPL : Hid (pbs.length = ps.length) := hpl
  clear hpl
  have HSRC : Hid (∀ j v, pbs[j]? = some v → ∃ ad, a0 = some ad ∧ w1.cell? (ad.add j) = some v) := by
    intro j v hv
    rw [HPB.out] at hv
    have hj : j < ps.length := by have := (List.getElem?_eq_some_iff.1 hv).1; simpa using this
    obtain ⟨b, o, hb, hc⟩ := H0.out j hj
    refine ⟨_, hb, ?_⟩
    rw [Addr.add_lit, HL.out.below.cell (p := ⟨b, o + j, none⟩) (World.block_lt_of_cell? _ _ hc), hc]
    simp [List.getD, hj] at hv ⊢
    exact hv
  go_wp2_with (refine wpList_copy_but (by rfl) (.tmp 34) (.tmp 35) 27 27 (by rfl) 4 Yba.underlying27 Yba.size4 (w.heap.size + 1 + 1 + 1) a0 n n ps.length c0 (by rfl) (by rfl) _ 4 HPR.out pbs (by rw [HPL.out]; exact (Nat.min_eq_left (by omega)).symm) HSRC.out (by rw [HPL.out]; simp [madeCells]; omega) (by rw [HPB.out]; intro v hv; obtain ⟨_, _, rfl⟩ := List.mem_map.1 hv; rfl) ?_; intro w2 HP2 hB2)
  rw [hmod]
  have HL2 : Hid (Laid w n R Wb (.pointer (some ⟨w.heap.size + 1 + 1 + 1 + 1, 2, none⟩)) (splice (madeCells #[.bool false] n).toList 0 pbs).toArray (readRow n i (.slice none 0 0)) w2) := by
    have h : Laid w n R Wb (.pointer (some ⟨w.heap.size + 1 + 1 + 1 + 1, 2, none⟩)) (splice (madeCells #[.bool false] n).toList 0 pbs).toArray (madeCells #[.slice none 0 0] n) w2 := HL.out.placed' hB2.os hB2.tape hB2.output hB2.size hB2.other HP2.out
    have e : readRow n i (.slice none 0 0) = madeCells #[.slice none 0 0] n := set_self _ _ _ (made_at _ _ _ hin)
    rw [e]
    exact h
  have HG2 : Hid (w2.heap[w.heap.size + 1 + 1 + 1 + 1 + 1]? = some (.cells (fill idf n n) 3 (0, 0))) := by
    show _ = _; rw [hB2.other _ (by omega)]; exact HG.out
  have HLo2 : Hid (w2.heap[w.heap.size + 1 + 1 + 1 + 1 + 1 + 1]? = some (.cells (fill (locf n) n n) 3 (0, 0))) := by
    show _ = _; rw [hB2.other _ (by omega)]; exact HLo.out
  clear HL HG HLo HPR hB2 c4 HP2 HSRC
  obtain ⟨i0, hi, hz0, hz1, hz2⟩ := info_parts Yba.info59
  have HI : Hid (Yba.prog.info? 59 = some i0 ∧ i0.zero = some (.agg #[.int .i64 0, .int .i64 0]) ∧ i0.size = 2 ∧ i0.bytes = 16) := ⟨hi, hz0, hz1, hz2⟩
  clear hi hz0 hz1 hz2
  go_loopw [43] (fun q wr => ∃ k : Nat, k ≤ zs.length ∧ q = .int .i64 k ∧ ∃ ra rcp, Laid w n R Wb (.pointer (some ⟨w.heap.size + 1 + 1 + 1 + 1, 2, none⟩)) (splice (madeCells #[.bool false] n).toList 0 pbs).toArray (readRow n i (.slice ra k rcp)) wr ∧
      wr.ownsRow (w.heap.size + 7) 59 2 (.slice ra k rcp) k (flat (froms n zs k)) ∧ wr.heap[w.heap.size + 1 + 1 + 1 + 1 + 1]? = some (.cells (fill idf n n) 3 (0, 0)) ∧ wr.heap[w.heap.size + 1 + 1 + 1 + 1 + 1 + 1]? = some (.cells (fill (locf n) n n) 3 (0, 0)))
    (fun q _ => zs.length - (intOf q).toNat)
  case atStart => exact ⟨0, Nat.zero_le _, rfl, _, _, HL2.out, World.ownsRow_nil _ _ _ _, HG2.out, HLo2.out⟩
  case round =>
    obtain ⟨k, hk, rfl, ra, rcp, hL, hown, hG, hLo⟩ := hrel
    by_cases hlt : k < zs.length
    · obtain ⟨b, o, hb, hc⟩ := H1.out k hlt
      subst hb
      obtain ⟨z, hzk⟩ : ∃ z, zs.getD k 0 = z := ⟨_, rfl⟩
      have hzb := HZ.out k hlt
      rw [hzk] at hzb hc
      obtain ⟨hzb0, hzb1⟩ := hzb
      have cz : wr.cell? ⟨b, o + k, none⟩ = some (.int .u8 z) := by rw [hL.below.cell (p := ⟨b, o + k, none⟩) (World.block_lt_of_cell? _ _ hc), hc]
      have HZK : Hid (zs.getD k 0 = z) := hzk
      clear hc hzk
      have q0 : wr.cell? ⟨w.heap.size + 1 + 1 + 1 + 1, 0, none⟩ = some (.pointer (some ⟨w.heap.size + 1 + 1, 0, none⟩)) := cell_in hL.search rfl
      have q1 : wr.cell? ⟨w.heap.size + 1 + 1, 1, none⟩ = some (.slice (some ⟨R, 0, none⟩) n n) := cell_in hL.cons rfl
      have q2 : wr.cell? ⟨R, i, none⟩ = some (.slice ra k rcp) := cell_in hL.reads (by simp [readRow, madeCells, hin])
      have f2 : wr.frozen? ⟨R, i, none⟩ = false := free_in hL.reads
      have HL : Hid (Laid w n R Wb (.pointer (some ⟨w.heap.size + 1 + 1 + 1 + 1, 2, none⟩)) (splice (madeCells #[.bool false] n).toList 0 pbs).toArray (readRow n i (.slice ra k rcp)) wr) := hL
      have HG : Hid (wr.heap[w.heap.size + 1 + 1 + 1 + 1 + 1]? = some (.cells (fill idf n n) 3 (0, 0))) := hG
      have HLo : Hid (wr.heap[w.heap.size + 1 + 1 + 1 + 1 + 1 + 1]? = some (.cells (fill (locf n) n n) 3 (0, 0))) := hLo
      clear hL hG hLo
      have hs7 := HL.out.size
      have hi0' : (0 : Int) ≤ (i : Int) := by omega
      have hi1' : (i : Int) < (n : Int) := by omega
      have lR := World.block_lt_of_cell? _ _ q2
      obtain ⟨f, hf⟩ : ∃ f : Int, f = z % (n + 1) - 1 := ⟨_, rfl⟩
      have HF : Hid (f = z % (n + 1) - 1) := hf
      have e1 : IntKind.i64.wrap ((n : Int) + 1) = n + 1 := by rw [IntKind.wrap_i64]; omega
      have e2 : ¬ ((n : Int) + 1 = 0) := by omega
      have e3 : IntKind.i64.wrap z = z := by rw [IntKind.wrap_i64]; omega
      have e4 : z.tmod ((n : Int) + 1) - 1 = f := by rw [hf, Int.tmod_eq_emod_of_nonneg hzb0]
      have hfb : -1 ≤ f ∧ f < n := by
        have h1 := Int.emod_nonneg z e2
        have h2 := Int.emod_lt_of_pos z (show (0 : Int) < n + 1 by omega)
        omega
      have e5 : IntKind.i64.wrap f = f := by rw [IntKind.wrap_i64]; omega
      clear hf
      have HOWN : Hid (wr.ownsRow (w.heap.size + 7) 59 2 (.slice ra k rcp) k (flat (froms n zs k))) := hown
      clear hown
      go_wp2_with fail
      refine wp_region_L (fun w' => w'.cell? ⟨w.heap.size + 1 + 1 + 1 + 1, 0, none⟩ = some (.pointer (some ⟨w.heap.size + 1 + 1, 0, none⟩)) ∧ w'.cell? ⟨w.heap.size + 1 + 1, 1, none⟩ = some (.slice (some ⟨R, 0, none⟩) n n) ∧ w'.cell? ⟨R, i, none⟩ = some (.slice ra k rcp)) 28 29 (by kernel_rfl) (by kernel_rfl) ?_
      have HS : Hid ((fun w' : World => w'.cell? ⟨w.heap.size + 1 + 1 + 1 + 1, 0, none⟩ = some (.pointer (some ⟨w.heap.size + 1 + 1, 0, none⟩)) ∧ w'.cell? ⟨w.heap.size + 1 + 1, 1, none⟩ = some (.slice (some ⟨R, 0, none⟩) n n) ∧ w'.cell? ⟨R, i, none⟩ = some (.slice ra k rcp)) wr.drew) := ⟨q0, q1, q2⟩
      refine wpL_take (i := 0) (v := ?_) rfl (by kernel_rfl) (by kernel_rfl) (by kernel_rfl) (by kernel_rfl) (fun _ _ _ h => h) (by rfl) ?_ HS.out ?_
      rotate_left
      · (intro wS hwS; (try dsimp only at hwS); go_simp; try with_reducible rfl)
      simp only [Act.put, List.getElem_toArray, List.getElem_cons_zero, List.getElem_cons_succ, List.setIfInBounds_toArray, List.set_cons_zero, List.set_cons_succ]
      refine wpL_take (i := 1) (v := ?_) rfl (by kernel_rfl) (by kernel_rfl) (by kernel_rfl) (by kernel_rfl) (fun _ _ _ h => h) (by rfl) ?_ HS.out ?_
      rotate_left
      · (intro wS hwS; (try dsimp only at hwS); go_simp; try with_reducible rfl)
      simp only [Act.put, List.getElem_toArray, List.getElem_cons_zero, List.getElem_cons_succ, List.setIfInBounds_toArray, List.set_cons_zero, List.set_cons_succ]
      refine wpL_take (i := 2) (v := ?_) rfl (by kernel_rfl) (by kernel_rfl) (by kernel_rfl) (by kernel_rfl) (fun _ _ _ h => h) (by rfl) ?_ HS.out ?_
      rotate_left
      · (intro wS hwS; (try dsimp only at hwS); go_simp; try with_reducible rfl)
      simp only [Act.put, List.getElem_toArray, List.getElem_cons_zero, List.getElem_cons_succ, List.setIfInBounds_toArray, List.set_cons_zero, List.set_cons_succ]
      refine wpL_take (i := 3) (v := ?_) rfl (by kernel_rfl) (by kernel_rfl) (by kernel_rfl) (by kernel_rfl) (fun _ _ _ h => h) (by rfl) ?_ HS.out ?_
      rotate_left
      · (intro wS hwS; (try dsimp only at hwS); go_simp; try with_reducible rfl)
      simp only [Act.put, List.getElem_toArray, List.getElem_cons_zero, List.getElem_cons_succ, List.setIfInBounds_toArray, List.set_cons_zero, List.set_cons_succ]
      refine wpL_take (i := 4) (v := ?_) rfl (by kernel_rfl) (by kernel_rfl) (by kernel_rfl) (by kernel_rfl) (fun _ _ _ h => h) (by rfl) ?_ HS.out ?_
      rotate_left
      · (intro wS hwS; (try dsimp only at hwS); go_simp; try with_reducible rfl)
      simp only [Act.put, List.getElem_toArray, List.getElem_cons_zero, List.getElem_cons_succ, List.setIfInBounds_toArray, List.set_cons_zero, List.set_cons_succ]
      refine wpL_take (i := 5) (v := ?_) rfl (by kernel_rfl) (by kernel_rfl) (by kernel_rfl) (by kernel_rfl) (fun _ _ _ h => h) (by rfl) ?_ HS.out ?_
      rotate_left
      · (intro wS hwS; (try dsimp only at hwS); go_simp; try with_reducible rfl)
      simp only [Act.put, List.getElem_toArray, List.getElem_cons_zero, List.getElem_cons_succ, List.setIfInBounds_toArray, List.set_cons_zero, List.set_cons_succ]
      refine wpL_take (i := 6) (v := ?_) rfl (by kernel_rfl) (by kernel_rfl) (by kernel_rfl) (by kernel_rfl) (fun _ _ _ h => h) (by rfl) ?_ HS.out ?_
      rotate_left
      · (intro wS hwS; (try dsimp only at hwS); go_simp; try with_reducible rfl)
      simp only [Act.put, List.getElem_toArray, List.getElem_cons_zero, List.getElem_cons_succ, List.setIfInBounds_toArray, List.set_cons_zero, List.set_cons_succ]
      refine wpL_take (i := 7) (v := ?_) rfl (by kernel_rfl) (by kernel_rfl) (by kernel_rfl) (by kernel_rfl) (fun _ _ _ h => h) (by rfl) ?_ HS.out ?_
      rotate_left
      · (intro wS hwS; (try dsimp only at hwS); go_simp; try with_reducible rfl)
      simp only [Act.put, List.getElem_toArray, List.getElem_cons_zero, List.getElem_cons_succ, List.setIfInBounds_toArray, List.set_cons_zero, List.set_cons_succ]
      refine wpL_take (i := 8) (v := ?_) rfl (by kernel_rfl) (by kernel_rfl) (by kernel_rfl) (by kernel_rfl) (fun _ _ _ h => h) (by rfl) ?_ HS.out ?_
      rotate_left
      · (intro wS hwS; (try dsimp only at hwS); go_simp; try with_reducible rfl)
      simp only [Act.put, List.getElem_toArray, List.getElem_cons_zero, List.getElem_cons_succ, List.setIfInBounds_toArray, List.set_cons_zero, List.set_cons_succ]
      refine wpL_take (i := 9) (v := ?_) rfl (by kernel_rfl) (by kernel_rfl) (by kernel_rfl) (by kernel_rfl) (fun _ _ _ h => h) (by rfl) ?_ HS.out ?_
      rotate_left
      · (intro wS hwS; (try dsimp only at hwS); go_simp; try with_reducible rfl)
      simp only [Act.put, List.getElem_toArray, List.getElem_cons_zero, List.getElem_cons_succ, List.setIfInBounds_toArray, List.set_cons_zero, List.set_cons_succ]
      refine wpL_take (i := 10) (v := ?_) rfl (by kernel_rfl) (by kernel_rfl) (by kernel_rfl) (by kernel_rfl) (fun _ _ _ h => h) (by rfl) ?_ HS.out ?_
      rotate_left
      · (intro wS hwS; (try dsimp only at hwS); go_simp; try with_reducible rfl)
      simp only [Act.put, List.getElem_toArray, List.getElem_cons_zero, List.getElem_cons_succ, List.setIfInBounds_toArray, List.set_cons_zero, List.set_cons_succ]
      refine wpL_take (i := 11) (v := ?_) rfl (by kernel_rfl) (by kernel_rfl) (by kernel_rfl) (by kernel_rfl) (fun _ _ _ h => h) (by rfl) ?_ HS.out ?_
      rotate_left
      · (intro wS hwS; (try dsimp only at hwS); go_simp; try with_reducible rfl)
      simp only [Act.put, List.getElem_toArray, List.getElem_cons_zero, List.getElem_cons_succ, List.setIfInBounds_toArray, List.set_cons_zero, List.set_cons_succ]
      refine wpL_take (i := 12) (v := ?_) rfl (by kernel_rfl) (by kernel_rfl) (by kernel_rfl) (by kernel_rfl) (fun _ _ _ h => h) (by rfl) ?_ HS.out ?_
      rotate_left
      · (intro wS hwS; (try dsimp only at hwS); go_simp; try with_reducible rfl)
      simp only [Act.put, List.getElem_toArray, List.getElem_cons_zero, List.getElem_cons_succ, List.setIfInBounds_toArray, List.set_cons_zero, List.set_cons_succ]
      refine wpL_take (i := 13) (v := ?_) rfl (by kernel_rfl) (by kernel_rfl) (by kernel_rfl) (by kernel_rfl) (fun _ _ _ h => h) (by rfl) ?_ HS.out ?_
      rotate_left
      · (intro wS hwS; (try dsimp only at hwS); go_simp; try with_reducible rfl)
      simp only [Act.put, List.getElem_toArray, List.getElem_cons_zero, List.getElem_cons_succ, List.setIfInBounds_toArray, List.set_cons_zero, List.set_cons_succ]
      refine wpL_take (i := 14) (v := ?_) rfl (by kernel_rfl) (by kernel_rfl) (by kernel_rfl) (by kernel_rfl) (fun _ _ _ h => h) (by rfl) ?_ HS.out ?_
      rotate_left
      · (intro wS hwS; (try dsimp only at hwS); go_simp; try with_reducible rfl)
      simp only [Act.put, List.getElem_toArray, List.getElem_cons_zero, List.getElem_cons_succ, List.setIfInBounds_toArray, List.set_cons_zero, List.set_cons_succ]
      refine wpL_take (i := 15) (v := ?_) rfl (by kernel_rfl) (by kernel_rfl) (by kernel_rfl) (by kernel_rfl) (fun _ _ _ h => h) (by rfl) ?_ HS.out ?_
      rotate_left
      · (intro wS hwS; (try dsimp only at hwS); go_simp; try with_reducible rfl)
      simp only [Act.put, List.getElem_toArray, List.getElem_cons_zero, List.getElem_cons_succ, List.setIfInBounds_toArray, List.set_cons_zero, List.set_cons_succ]
      refine wpL_take (i := 16) (v := ?_) rfl (by kernel_rfl) (by kernel_rfl) (by kernel_rfl) (by kernel_rfl) (fun _ _ _ h => h) (by rfl) ?_ HS.out ?_
      rotate_left
      · (intro wS hwS; (try dsimp only at hwS); go_simp; try with_reducible rfl)
      simp only [Act.put, List.getElem_toArray, List.getElem_cons_zero, List.getElem_cons_succ, List.setIfInBounds_toArray, List.set_cons_zero, List.set_cons_succ]
      refine wpL_take (i := 17) (v := ?_) rfl (by kernel_rfl) (by kernel_rfl) (by kernel_rfl) (by kernel_rfl) (fun _ _ _ h => h) (by rfl) ?_ HS.out ?_
      rotate_left
      · (intro wS hwS; (try dsimp only at hwS); go_simp; try with_reducible rfl)
      simp only [Act.put, List.getElem_toArray, List.getElem_cons_zero, List.getElem_cons_succ, List.setIfInBounds_toArray, List.set_cons_zero, List.set_cons_succ]
      refine wpL_take (i := 18) (v := ?_) rfl (by kernel_rfl) (by kernel_rfl) (by kernel_rfl) (by kernel_rfl) (fun _ _ _ h => h) (by rfl) ?_ HS.out ?_
      rotate_left
      · (intro wS hwS; (try dsimp only at hwS); go_simp; try with_reducible rfl)
      simp only [Act.put, List.getElem_toArray, List.getElem_cons_zero, List.getElem_cons_succ, List.setIfInBounds_toArray, List.set_cons_zero, List.set_cons_succ]
      refine wpL_take (i := 19) (v := ?_) rfl (by kernel_rfl) (by kernel_rfl) (by kernel_rfl) (by kernel_rfl) (fun _ _ _ h => h) (by rfl) ?_ HS.out ?_
      rotate_left
      · (intro wS hwS; (try dsimp only at hwS); go_simp; try with_reducible rfl)
      simp only [Act.put, List.getElem_toArray, List.getElem_cons_zero, List.getElem_cons_succ, List.setIfInBounds_toArray, List.set_cons_zero, List.set_cons_succ]
      refine wpL_take (i := 20) (v := ?_) rfl (by kernel_rfl) (by kernel_rfl) (by kernel_rfl) (by kernel_rfl) (fun _ _ _ h => h) (by rfl) ?_ HS.out ?_
      rotate_left
      · (intro wS hwS; (try dsimp only at hwS); go_simp; try with_reducible rfl)
      simp only [Act.put, List.getElem_toArray, List.getElem_cons_zero, List.getElem_cons_succ, List.setIfInBounds_toArray, List.set_cons_zero, List.set_cons_succ]
      refine wpL_take (i := 21) (v := ?_) rfl (by kernel_rfl) (by kernel_rfl) (by kernel_rfl) (by kernel_rfl) (fun _ _ _ h => h) (by rfl) ?_ HS.out ?_
      rotate_left
      · (intro wS hwS; (try dsimp only at hwS); go_simp; try with_reducible rfl)
      simp only [Act.put, List.getElem_toArray, List.getElem_cons_zero, List.getElem_cons_succ, List.setIfInBounds_toArray, List.set_cons_zero, List.set_cons_succ]
      refine wpL_take (i := 22) (v := ?_) rfl (by kernel_rfl) (by kernel_rfl) (by kernel_rfl) (by kernel_rfl) (fun _ _ _ h => h) (by rfl) ?_ HS.out ?_
      rotate_left
      · (intro wS hwS; (try dsimp only at hwS); go_simp; try with_reducible rfl)
      simp only [Act.put, List.getElem_toArray, List.getElem_cons_zero, List.getElem_cons_succ, List.setIfInBounds_toArray, List.set_cons_zero, List.set_cons_succ]
      refine wpL_take (i := 23) (v := ?_) rfl (by kernel_rfl) (by kernel_rfl) (by kernel_rfl) (by kernel_rfl) (fun _ _ _ h => h) (by rfl) ?_ HS.out ?_
      rotate_left
      · (intro wS hwS; (try dsimp only at hwS); go_simp; try with_reducible rfl)
      simp only [Act.put, List.getElem_toArray, List.getElem_cons_zero, List.getElem_cons_succ, List.setIfInBounds_toArray, List.set_cons_zero, List.set_cons_succ]
      refine wpL_take (i := 24) (v := ?_) rfl (by kernel_rfl) (by kernel_rfl) (by kernel_rfl) (by kernel_rfl) (fun _ _ _ h => h) (by rfl) ?_ HS.out ?_
      rotate_left
      · (intro wS hwS; (try dsimp only at hwS); go_simp; try with_reducible rfl)
      simp only [Act.put, List.getElem_toArray, List.getElem_cons_zero, List.getElem_cons_succ, List.setIfInBounds_toArray, List.set_cons_zero, List.set_cons_succ]
      have HS1 : Hid ((fun w' : World => w'.cell? ⟨w.heap.size + 1 + 1 + 1 + 1, 0, none⟩ = some (.pointer (some ⟨w.heap.size + 1 + 1, 0, none⟩)) ∧ w'.cell? ⟨w.heap.size + 1 + 1, 1, none⟩ = some (.slice (some ⟨R, 0, none⟩) n n) ∧ w'.cell? ⟨R, i, none⟩ = some (.slice ra k rcp)) ((wr.alloc (.cells #[.int .i64 0, .int .i64 f] 59)).drew)) := by
        refine ⟨?_, ?_, ?_⟩
        · rw [← q0]; exact World.cell?_of_block (w := wr) (Below.heap_alloc _ _ _ (World.block_lt_of_cell? _ _ q0))
        · rw [← q1]; exact World.cell?_of_block (w := wr) (Below.heap_alloc _ _ _ (World.block_lt_of_cell? _ _ q1))
        · rw [← q2]; exact World.cell?_of_block (w := wr) (Below.heap_alloc _ _ _ (World.block_lt_of_cell? _ _ q2))
      refine wpL_one (i := 25) (by kernel_rfl) rfl (fun K hK => ?_)
      simp only [List.getElem_toArray, List.getElem_cons_zero, List.getElem_cons_succ]
      go_simp
      refine hK.out _ _ (fun _ => HS1.out) ?_
      clear hK K
      try simp only [Act.put, List.getElem_toArray, List.getElem_cons_zero, List.getElem_cons_succ, List.setIfInBounds_toArray, List.set_cons_zero, List.set_cons_succ]
      refine wpL_one (i := 26) (by kernel_rfl) rfl (fun K hK => ?_)
      refine step_append_lies _ (by rfl) _ _ _ (by rfl) (w.heap.size + 7) 59 i0 _ 2 16 Yba.underlying52 HI.out.1 HI.out.2.1 HI.out.2.2.1 HI.out.2.2.2 rfl (by omega) (.slice ra k rcp) k _ (by rfl) ((HOWN.out.alloc _).drew) ⟨wr.heap.size, 0, none⟩ 1 1 [.int .i64 0, .int .i64 f] (by rfl) (by rfl) (World.news_of_block (cs := #[.int .i64 0, .int .i64 f]) (t := 59) (fr := (0, 0)) (heap_alloc_new wr _)) (by simp [Value.oneCell']) (by omega) (by unfold maxLen; omega) (by omega) (by simp; omega) (wr.heap.size + 1) (by simp) ?_
      intro gg cap w3 hown1 hgrow hat hlt3
      have hne : ∀ b, b < w.heap.size + 7 → some b ≠ (Value.slice ra k rcp).ownBlock := fun b hb e => by have := (HOWN.out.lt b e.symm).1; omega
      have h2 := HL.out.two
      have r0 : w3.cell? ⟨w.heap.size + 1 + 1 + 1 + 1, 0, none⟩ = some (.pointer (some ⟨w.heap.size + 1 + 1, 0, none⟩)) := hgrow.cell HS1.out.1 (hne (w.heap.size + 1 + 1 + 1 + 1) (by omega))
      have r1 : w3.cell? ⟨w.heap.size + 1 + 1, 1, none⟩ = some (.slice (some ⟨R, 0, none⟩) n n) := hgrow.cell HS1.out.2.1 (hne (w.heap.size + 1 + 1) (by omega))
      have r2 : w3.cell? ⟨R, i, none⟩ = some (.slice ra k rcp) := hgrow.cell HS1.out.2.2 (hne R (by omega))
      have HS2 : Hid ((fun w' : World => w'.cell? ⟨w.heap.size + 1 + 1 + 1 + 1, 0, none⟩ = some (.pointer (some ⟨w.heap.size + 1 + 1, 0, none⟩)) ∧ w'.cell? ⟨w.heap.size + 1 + 1, 1, none⟩ = some (.slice (some ⟨R, 0, none⟩) n n) ∧ w'.cell? ⟨R, i, none⟩ = some (.slice ra k rcp)) w3) := ⟨r0, r1, r2⟩
      have f3 : w3.frozen? ⟨R, i, none⟩ = false := by
        rw [World.frozen?_of_block (w := (wr.alloc (.cells #[.int .i64 0, .int .i64 f] 59)).drew) (hgrow.block R (by simp; omega) (hne R (by omega))), ← f2]
        exact World.frozen?_of_block (w := wr) (Below.heap_alloc _ _ _ lR)
      refine hK.out _ _ (fun _ => HS2.out) ?_
      clear hK K
      try simp only [Act.put, List.getElem_toArray, List.getElem_cons_zero, List.getElem_cons_succ, List.setIfInBounds_toArray, List.set_cons_zero, List.set_cons_succ]
      refine wpL_take (i := 27) (v := ?_) rfl (by kernel_rfl) (by kernel_rfl) (by kernel_rfl) (by kernel_rfl) (fun _ _ _ h => h) (by rfl) ?_ HS2.out ?_
      rotate_left
      · (intro wS hwS; (try dsimp only at hwS); go_simp; try with_reducible rfl)
      simp only [Act.put, List.getElem_toArray, List.getElem_cons_zero, List.getElem_cons_succ, List.setIfInBounds_toArray, List.set_cons_zero, List.set_cons_succ]
      refine wpL_one (i := 28) (by kernel_rfl) rfl (fun K hK => ?_)
      simp only [List.getElem_toArray, List.getElem_cons_zero, List.getElem_cons_succ]
      go_simp
      refine hK.out _ _ (fun h => absurd rfl h) ?_
      clear hK K
      refine wpL_done (by kernel_rfl) ?_ _
      go_wp2
      go_roundw
      case rel =>
        have hk7 : ∀ j, j < w.heap.size + 7 → w3.heap[j]? = wr.heap[j]? := fun j hj => by
          rw [hgrow.block j (by simp; omega) (hne j hj)]
          exact Below.heap_alloc _ _ _ (by omega)
        have hLn := (HL.out.grown (w' := w3) (by have := hgrow.size; simp at this; omega) hgrow.os hgrow.tape hgrow.output hk7).store i (.slice (some ⟨gg, 0, none⟩) (k + 1) cap)
        refine ⟨k + 1, by omega, by go_num, some ⟨gg, 0, none⟩, cap, ?_, ?_, ?_, ?_⟩
        · have e : (readRow n i (.slice ra k rcp)).setIfInBounds i (.slice (some ⟨gg, 0, none⟩) (k + 1) cap) = readRow n i (.slice (some ⟨gg, 0, none⟩) (k + 1) cap) := set_set _ _ _ _
          rw [← e]; exact hLn
        · rw [froms_succ n zs k hlt, HZK.out, ← HF.out]
          exact ownsRow_setCell_below hown1 (by dsimp only; omega) _
        · rw [Below.heap_setCell _ _ _ _ (by dsimp only; omega), hk7 _ (by omega)]; exact HG.out
        · rw [Below.heap_setCell _ _ _ _ (by dsimp only; omega), hk7 _ (by omega)]; exact HLo.out
      case measure => simp [intOf]; omega
    · obtain rfl : k = zs.length := by omega
      have hL' := hL
      rw [HPB.out] at hL'
      have U := setup_of HN.out hin (by omega) (by omega) (fun k hk => (HZ.out k hk).1) hL' hown hG hLo
      have HBL : Hid (Below w.heap.size w wr) := hL.below
      have H19 : Hid (wr.cell? ⟨w.heap.size + 1 + 1 + 1 + 1, 19, none⟩ = some (.slice none 0 0)) := cell_in hL.search rfl
      have hfl := froms_length n zs zs.length (Nat.le_refl _)
      obtain ⟨m, hm, hlow, hhit⟩ := first_good (ps ++ [false]) (froms n zs zs.length)
      rw [hfl] at hm hhit
      have HU : Hid (Setup (w.heap.size + 1 + 1 + 1 + 1) (w.heap.size + 1 + 1) R Wb (w.heap.size + 1 + 1 + 1) (w.heap.size + 1 + 1 + 1 + 1 + 1) (w.heap.size + 1 + 1 + 1 + 1 + 1 + 1) n i 0 (froms n zs zs.length) (ps ++ [false]) ra rcp wr) := U
      have HLOW : Hid (∀ j, j < m → good (ps ++ [false]) ((froms n zs zs.length).getD j 0) = false) := hlow
      have HHIT : Hid (m < zs.length → good (ps ++ [false]) ((froms n zs zs.length).getD m 0) = true) := hhit
      have q0 := U.h0
      have q1 := U.k1
      have q2 := U.hr
      rw [hfl] at q2
      have HFL : Hid ((froms n zs zs.length).length = zs.length) := hfl
      have hi0' : (0 : Int) ≤ (i : Int) := by omega
      have hi1' : (i : Int) < (n : Int) := by omega
      clear hL hL' hown hG hLo U hlow hhit hfl HI HL2 HG2 HLo2 hk hlt
      generalize hfs : froms n zs zs.length = fs at *
      clear hfs
      obtain ⟨W, hW⟩ : ∃ W, W = wr := ⟨_, rfl⟩
      subst hW
      have h19 : ∀ {w5 : World}, Below W.heap.size W w5 → w5.cell? ⟨w.heap.size + 1 + 1 + 1 + 1, 19, none⟩ = some (.slice none 0 0) := fun {w5} h => by
        rw [h.cell (p := ⟨w.heap.size + 1 + 1 + 1 + 1, 19, none⟩) (World.block_lt_of_cell? _ _ H19.out)]; exact H19.out
      go_wp2_with fail
      go_loopw [12, 87] (fun v q wr => ∃ k : Nat, k ≤ m ∧ q = .int .i64 k ∧ v = .int .i64 (-1) ∧ Below W.heap.size W wr) (fun _ q _ => zs.length - (intOf q).toNat)
      case atStart => exact ⟨0, Nat.zero_le _, rfl, rfl, Below.refl _ _⟩
      case round =>
        obtain ⟨k, hk, rfl, rfl, hbel⟩ := hrel
        have U : Setup (w.heap.size + 1 + 1 + 1 + 1) (w.heap.size + 1 + 1) R Wb (w.heap.size + 1 + 1 + 1) (w.heap.size + 1 + 1 + 1 + 1 + 1) (w.heap.size + 1 + 1 + 1 + 1 + 1 + 1) n i 0 fs (ps ++ [false]) ra rcp wr :=
          HU.out.tick ((Tick.refl HU.out.h2).grow (World.block_lt_of_cell? _ _ HU.out.h2) hbel) (by omega) (by omega)
        have HB : Hid (Below w.heap.size w wr) := HBL.out.trans (hbel.mono HBL.out.size)
        have HB2 : Hid (Below W.heap.size W wr) := hbel
        clear hbel
        by_cases hlt : k < zs.length
        · obtain ⟨b, hra, hbS, g0, g1⟩ := U.hfs k (by rw [HFL.out]; exact hlt)
          subst hra
          have hfn := U.hb k (by rw [HFL.out]; exact hlt)
          obtain ⟨f, hf⟩ : ∃ f, fs.getD k 0 = f := ⟨_, rfl⟩
          rw [hf] at g1 hfn
          have s4 := U.h4
          have HU1 : Hid (Setup (w.heap.size + 1 + 1 + 1 + 1) (w.heap.size + 1 + 1) R Wb (w.heap.size + 1 + 1 + 1) (w.heap.size + 1 + 1 + 1 + 1 + 1) (w.heap.size + 1 + 1 + 1 + 1 + 1 + 1) n i 0 fs (ps ++ [false]) (some ⟨b, 0, none⟩) rcp wr) := U
          clear q0 q1 q2
          by_cases hf0 : 0 ≤ f
          · obtain ⟨x, rfl⟩ : ∃ x : Nat, f = x := ⟨f.toNat, by omega⟩
            have hxn : x < n := by omega
            have qp := U.hpl x hxn
            obtain ⟨pb, hpb⟩ : ∃ pb, (ps ++ [false]).getD x false = pb := ⟨_, rfl⟩
            rw [hpb] at qp
            have HGK : Hid (good (ps ++ [false]) (fs.getD k 0) = !pb) := by show good _ _ = _; rw [hf]; simp [good, ← hpb, List.getD]
            have HF : Hid (fs.getD k 0 = x) := hf
            clear hf hpb U
            have s4a : ∀ ob, (wr.alloc ob).cell? ⟨w.heap.size + 1 + 1 + 1 + 1, 4, none⟩ = some (.slice (some ⟨w.heap.size + 1 + 1 + 1, 0, none⟩) n n) := fun ob => by rw [World.cell?_of_block (w := wr) (Below.heap_alloc _ _ _ (World.block_lt_of_cell? _ _ s4))]; exact s4
            have qpa : ∀ ob, (wr.alloc ob).cell? ⟨w.heap.size + 1 + 1 + 1, x, none⟩ = some (.bool pb) := fun ob => by rw [World.cell?_of_block (w := wr) (Below.heap_alloc _ _ _ (World.block_lt_of_cell? _ _ qp))]; exact qp
            have hd : decide ((0 : Int) ≤ (x : Int)) = true := by simp
            cases pb with
            | true =>
              go_wp2_with fail
              go_quiet (fail)
              go_wp2
              go_roundw
              case rel =>
                have hkm : k < m := by
                  rcases Nat.lt_or_ge k m with h | h
                  · exact h
                  · have : k = m := by omega
                    subst this
                    have h1 := HHIT.out hlt
                    have h2 := HGK.out
                    rw [h2] at h1
                    simp at h1
                exact ⟨k + 1, by omega, by go_num, rfl, below_drewN (HB2.out.alloc HB2.out.size _) _⟩
              case measure => simp [intOf]; omega
            | false =>
              have hkm : k = m := by
                rcases Nat.lt_or_ge k m with h | h
                · have h1 := HLOW.out k h
                  have h2 := HGK.out
                  rw [h2] at h1
                  simp at h1
                · omega
              subst hkm
              go_wp2_with fail
              go_quiet (fail)
              go_wp2_with fail
              have hBn : Below wr.heap.size wr ((wr.alloc (.cells #[.int .i64 0, .int .i64 x] 59)).drewN nq) := below_drewN ((Below.refl _ _).alloc (Nat.le_refl _) _) nq
              have hU5 := HU1.out.tick ((Tick.refl HU1.out.h2).grow (World.block_lt_of_cell? _ _ HU1.out.h2) hBn) (by omega) (by omega)
              have HB5 : Hid (Below W.heap.size W ((wr.alloc (.cells #[.int .i64 0, .int .i64 x] 59)).drewN nq)) := HB2.out.trans (hBn.mono HB2.out.size)
              clear hBn s4 s4a qp qpa
              generalize (wr.alloc (.cells #[.int .i64 0, .int .i64 x] 59)).drewN nq = w5 at *
              have HU5 : Hid (Setup (w.heap.size + 1 + 1 + 1 + 1) (w.heap.size + 1 + 1) R Wb (w.heap.size + 1 + 1 + 1) (w.heap.size + 1 + 1 + 1 + 1 + 1) (w.heap.size + 1 + 1 + 1 + 1 + 1 + 1) n i 0 fs (ps ++ [false]) (some ⟨b, 0, none⟩) rcp w5) := hU5
              clear hU5
              refine (wait_hit _ _ _ _ _ _ _ n i 0 fs (ps ++ [false]) _ rcp k (.map none) x w5 (fun w1 _ => look_nil w1 i) (fun w1 hw1 => (ref_nil _ i w1 (hw1.cell (h19 HB5.out) (by simp))).mono (fun e w' h => ⟨h.1, 0 + 1, by omega, by omega, by rw [h.2]; exact hw1⟩)) HU5.out (by rw [HFL.out]; exact hlt) HLOW.out (HHIT.out hlt) HF.out).mono ?_
              rintro e w6 ⟨a6, rfl, hc6, t6, hT6⟩
              have HB6 : Hid (Below w.heap.size w w6) := (HBL.out.trans (HB5.out.mono HBL.out.size)).trans (hT6.below (by omega) (Nat.le_trans HBL.out.size HB5.out.size))
              have HC6 : Hid (w6.cell? ⟨a6, 0, none⟩ = some (.int .i64 ((n : Int) - 1 - x))) := hc6
              clear hc6 hT6 h19
              go_wp2_with fail
              refine (ceq_one a6 1 w6.heap.size 1 ((n : Int) - 1 - x) _ ?_ ?_).mono ?_
              · rw [World.cell?_of_block (w := w6) (Below.heap_alloc _ _ _ (World.block_lt_of_cell? _ _ HC6.out))]; exact HC6.out
              · exact cell_in (heap_alloc_new w6 _) rfl
              rintro e w7 ⟨rfl, n7, hw7⟩
              have HB7 : Hid (Below w.heap.size w w7) := by rw [hw7]; exact below_drewN (HB6.out.alloc HB6.out.size _) _
              clear hw7
              go_wp2
              go_ret
              exact ⟨rfl, HB7.out⟩
          · have hd : decide ((0 : Int) ≤ f) = false := by simpa using hf0
            have HGK : Hid (good (ps ++ [false]) (fs.getD k 0) = false) := by show good _ _ = _; rw [hf]; simp [good, hd]
            clear hf U
            go_wp2_with fail
            go_quiet (fail)
            go_wp2
            go_roundw
            case rel =>
              have hkm : k < m := by
                rcases Nat.lt_or_ge k m with h | h
                · exact h
                · have : k = m := by omega
                  subst this
                  have h1 := HHIT.out hlt
                  have h2 := HGK.out
                  rw [h2] at h1
                  simp at h1
              exact ⟨k + 1, by omega, by go_num, rfl, below_drewN (HB2.out.alloc HB2.out.size _) _⟩
            case measure => simp [intOf]; omega
        · have hall : ∀ j, j < fs.length → good (ps ++ [false]) (fs.getD j 0) = false := fun j hj => HLOW.out j (by rw [HFL.out] at hj; omega)
          have HALL : Hid (∀ j, j < fs.length → good (ps ++ [false]) (fs.getD j 0) = false) := hall
          have HU1 : Hid (Setup (w.heap.size + 1 + 1 + 1 + 1) (w.heap.size + 1 + 1) R Wb (w.heap.size + 1 + 1 + 1) (w.heap.size + 1 + 1 + 1 + 1 + 1) (w.heap.size + 1 + 1 + 1 + 1 + 1 + 1) n i 0 fs (ps ++ [false]) ra rcp wr) := U
          have hnil := fun (w : World) (n c : Nat) (a : Option Addr) => Lib.run_eql_slice_nil (P := Yba.prog) w 22 3 a n c 0 0 Yba.underlying22
          clear hall U q0 q1 q2
          go_wp2_with fail
          refine (wait_miss _ _ _ _ _ _ _ n i 0 fs (ps ++ [false]) ra rcp (.map none) wr (fun w1 _ => look_nil w1 i) (fun w1 hw1 => (ref_nil _ i w1 (hw1.cell (h19 HB2.out) (by simp))).mono (fun e w' h => ⟨h.1, 0 + 1, by omega, by omega, by rw [h.2]; exact hw1⟩)) HU1.out HALL.out).mono ?_
          rintro e w4 ⟨rfl, t4, hT4⟩
          have HB4 : Hid (Below w.heap.size w w4) := HB.out.trans (hT4.below (by omega) HB.out.size)
          clear hT4
          go_wp2
          go_ret
          exact ⟨rfl, HB4.out⟩

theorem reads_long (a0 a1 : Option Addr) (n0 n1 c0 c1 : Nat) (iv : Int) (w : World) (hm0 : n0 ≤ maxLen) (hm1 : n1 ≤ maxLen) (h : 1024 < n0 ∨ 1024 < n1) :
    Calls Yba.prog 5 #[.slice a0 n0 c0, .slice a1 n1 c1, .int .u8 iv] w fun e w' => e = .returned (.bool true) ∧ Below w.heap.size w w' := by
  unfold maxLen at hm0 hm1
  by_cases h1 : 1024 < n0
  · have hd1 : decide (1024 < (n0 : Int)) = true := by simp; omega
    clear h
    go_enter Yba.func5, Yba.ntmps5
    go_wp2
    go_ret
    exact ⟨rfl, Below.refl _ _⟩
  · have hd1 : decide (1024 < (n0 : Int)) = false := by simp; omega
    have hd2 : decide (1024 < (n1 : Int)) = true := by simp; omega
    clear h
    go_enter Yba.func5, Yba.ntmps5
    go_wp2
    go_ret
    exact ⟨rfl, Below.refl _ _⟩

end Go.Proofs.Ybulkcogu
