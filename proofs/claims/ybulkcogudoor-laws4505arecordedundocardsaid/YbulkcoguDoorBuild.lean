import Derived.Test.YbulkcoguDoorCheck
import Derived.Test.YbulkcoguDoorMakers
namespace Go.Proofs.YbulkcoguDoor
open Go.RowKit Go.Deep
set_option linter.unusedVariables false
set_option linter.unusedSimpArgs false

theorem Ybad.info49 : (Ybad.prog.info? 49).map (fun i => (i.zero, i.size, i.bytes)) = some (some (.int .u64 0), 1, 8) := by kernel_rfl
theorem Ybad.info28 : (Ybad.prog.info? 28).map (fun i => (i.zero, i.size, i.bytes)) = some (some (.slice none 0 0), 1, 24) := by kernel_rfl
theorem Ybad.info4 : (Ybad.prog.info? 4).map (fun i => (i.zero, i.size, i.bytes)) = some (some (.bool false), 1, 1) := by kernel_rfl
theorem Ybad.info54 : (Ybad.prog.info? 54).map (fun i => (i.zero, i.size, i.bytes)) = some (some (.agg #[.int .i64 0, .int .i64 0, .int .i64 0, .int .i64 0]), 4, 32) := by kernel_rfl

theorem make_seg (s : Nat) (hs : s ≤ 3) : ∃ C : Array Value, C.size = 4 * s ∧ (∀ j, j < 4 * s → C[j]? = some (.int .i64 0)) ∧ ∀ w : World, (Instr.makeSlice 29 (.int .i64 s) (.int .i64 s)).run Ybad.prog w = .ok (.slice (some ⟨w.heap.size, 0, none⟩) s s) (w.alloc (.cells C 54)) := by
  obtain ⟨i, hi, hzz⟩ := Option.map_eq_some_iff.1 Ybad.info54
  simp only [Prod.mk.injEq] at hzz
  obtain ⟨hz, hsz, hb⟩ := hzz
  refine ⟨madeCells (Value.agg #[.int .i64 0, .int .i64 0, .int .i64 0, .int .i64 0]).cells (s * 4), by rw [size_madeCells, Nat.mul_comm], fun j hj => ?_, fun w => ?_⟩
  · have hz4 : (Value.agg #[.int .i64 0, .int .i64 0, .int .i64 0, .int .i64 0]).cells = #[.int .i64 0, .int .i64 0, .int .i64 0, .int .i64 0] := by kernel_rfl
    rw [hz4]
    have hj4 : j % 4 = 0 ∨ j % 4 = 1 ∨ j % 4 = 2 ∨ j % 4 = 3 := by omega
    have hjs : j < s * 4 := by omega
    simp only [madeCells, Array.getElem?_map, Array.getElem?_range, hjs, if_true, Option.map_some]
    rcases hj4 with h | h | h | h <;> simp [h]
  · have := run_make (P := Ybad.prog) w 29 54 i _ Ybad.underlying29 hi hz .i64 .i64 s s (by omega) (by omega) (by rw [hb]; omega) (by omega)
    rw [hsz] at this
    simpa using this

def addv (ad : List Nat) (F v : Nat) : Nat := if v < ad.length then ad.getD v 0 &&& F else 0
def waitv (wa : List Int) (u : Nat) : Int := if u < wa.length then wa.getD u 0 else 0
def rdk (rm : List Nat) (i g : Nat) : List Nat := if i < rm.length then (List.range g).filter (fun g => (rm.getD i 0).testBit g) else []

def fBits (ad : List Nat) (F n k : Nat) : Nat → Value := fun j => .int .u64 ((if n ≤ j ∧ j < n + k then addv ad F (j - n) else 0 : Nat) : Int)
def fBitsF (ad : List Nat) (F n : Nat) : Nat → Value := updV (fBits ad F n n) (2 * n) (.int .u64 (F : Nat))
def fWait (wa : List Int) (k : Nat) : Nat → Value := fun j => .int .i64 (if j < k then waitv wa j else 0)

theorem rdk_succ_in {rm : List Nat} {i g : Nat} (h : i < rm.length) (hb : (rm.getD i 0).testBit g = true) : rdk rm i (g + 1) = rdk rm i g ++ [g] := by
  unfold rdk
  rw [if_pos h, if_pos h, List.range_succ, List.filter_append]
  simp only [List.filter_cons, hb, if_true, List.filter_nil]

theorem rdk_succ_out {rm : List Nat} {i g : Nat} (h : i < rm.length) (hb : (rm.getD i 0).testBit g = false) : rdk rm i (g + 1) = rdk rm i g := by
  unfold rdk
  rw [if_pos h, if_pos h, List.range_succ, List.filter_append]
  simp only [List.filter_cons, hb, Bool.false_eq_true, if_false, List.filter_nil, List.append_nil]

theorem rdk_mem {rm : List Nat} {i s g : Nat} : (rdk rm i s).contains g = (decide (i < rm.length) && decide (g < s) && (rm.getD i 0).testBit g) := by
  unfold rdk
  by_cases h : i < rm.length
  · rw [if_pos h]
    simp only [h, decide_true, Bool.true_and]
    by_cases hg : g < s
    · cases hb : (rm.getD i 0).testBit g with
      | true => simp only [hg, decide_true, Bool.true_and]; rw [List.contains_iff_mem, List.mem_filter]; exact ⟨List.mem_range.2 hg, hb⟩
      | false =>
        rw [Bool.and_false]
        simp only [List.contains_eq_mem, decide_eq_false_iff_not, List.mem_filter, hb]
        simp
    · simp only [hg, decide_false, Bool.false_and]
      simp only [List.contains_eq_mem, decide_eq_false_iff_not, List.mem_filter, List.mem_range]
      exact fun hh => hg hh.1
  · simp [h]

def fSeg (c : Nat → Nat) (m k : Nat) : Nat → Value := fun j => .int .i64 ((if j / 4 < k then (if j % 4 = 0 then 0 else if j % 4 = 1 then m + j / 4 else c (j / 4)) else 0 : Nat) : Int)

/-- The rows of reads while they are built. -/
structure RS (w : World) (B n m s : Nat) (F : Nat) (ad : List Nat) (wa : List Int) (rvs : Nat → Value) (rl : Nat → List Nat) (c : Nat → Nat) (col : Nat → Nat) (wr : World) : Prop where
  b : Blk wr B 49 (2 * n + 1) (fBitsF ad F n)
  wt : Blk wr (B + 1) 3 n (fWait wa n)
  rd : Blk wr (B + 2) 28 m rvs
  cn : Blk wr (B + 2 + 1) 3 s (fun g => .int .i64 (c g : Nat))
  row : ∀ j, j < m → wr.ownsRow (B + 4) 3 1 (rvs j) (rl j).length ((rl j).map encI)
  col : ∀ j, j < m → ∀ g, (rvs j).ownBlock = some g → col g = j
  bel : Below w.heap.size w wr
  eB : B = w.heap.size

theorem RS.drop {w : World} {B n m s F : Nat} {ad : List Nat} {wa : List Int} {rvs : Nat → Value} {rl rl' : Nat → List Nat} {c c' : Nat → Nat} {col : Nat → Nat} {wr : World} (h : RS w B n m s F ad wa rvs rl c col wr)
    (h1 : ∀ j, j < m → rl j = rl' j) (h2 : ∀ g, g < s → c g = c' g) : RS w B n m s F ad wa rvs rl' c' col wr :=
  ⟨h.b, h.wt, h.rd, h.cn.congr (fun j hj => by rw [h2 j hj]), fun j hj => by rw [← h1 j hj]; exact h.row j hj, h.col, h.bel, h.eB⟩

/-- reads[i] = append(reads[i], g); cnt[g]++. -/
theorem RS.app {w : World} {B n m s F : Nat} {ad : List Nat} {wa : List Int} {rvs : Nat → Value} {rl : Nat → List Nat} {c : Nat → Nat} {col : Nat → Nat} {wr w2 : World} (h : RS w B n m s F ad wa rvs rl c col wr) {i g : Nat} (hi : i < m) (hg : g < s) {G cap : Nat} {o : Obj}
    (hown : w2.ownsRow (B + 4) 3 1 (.slice (some ⟨G, 0, none⟩) ((rl i).length + 1) cap) ((rl i).length + 1) ((rl i).map encI ++ [encI g])) (hgr : (wr.alloc o).grownBy w2 (rvs i).ownBlock) (hat : (rvs i).ownBlock = some G ∨ G = wr.heap.size + 1) :
    RS w B n m s F ad wa (updV rvs i (.slice (some ⟨G, 0, none⟩) ((rl i).length + 1) cap)) (fun j => if j = i then rl i ++ [g] else rl j) (fun k => if k = g then c g + 1 else c k) (recol col (wr.heap.size + 1) i)
      ((w2.setCell ⟨B + 2, i, none⟩ (.slice (some ⟨G, 0, none⟩) ((rl i).length + 1) cap)).setCell ⟨B + 2 + 1, g, none⟩ (.int .i64 ((c g + 1 : Nat) : Int))) := by
  have hbase := base_le (h.row i hi)
  have hsz : B + 4 ≤ wr.heap.size := h.cn.lt
  have hk : ∀ b, b < B + 4 → w2.heap[b]? = wr.heap[b]? := fun b hb => (hgr.block b (by simp; omega) (fun e => by have := hbase b e.symm; omega)).trans (Below.heap_alloc _ _ _ (by omega))
  have hne : ∀ b, b ≠ B + 2 → b ≠ B + 2 + 1 → ∀ v u, ((w2.setCell ⟨B + 2, i, none⟩ v).setCell ⟨B + 2 + 1, g, none⟩ u).heap[b]? = w2.heap[b]? := fun b h1 h2 v u => (Below.heap_setCell _ _ _ _ h2).trans (Below.heap_setCell _ _ _ _ h1)
  have hcolG : ∀ j, j < m → j ≠ i → (rvs j).ownBlock ≠ some G := fun j hj hji e => by
    rcases hat with ha | ha
    · exact hji ((h.col j hj G e).symm.trans (h.col i hi G ha))
    · have := (h.row j hj).lt G e; omega
  have hEB := h.eB
  refine ⟨?_, ?_, ?_, ?_, fun j hj => ?_, fun j hj b hb => ?_, ?_, h.eB⟩
  · exact h.b.same ((hne _ (by omega) (by omega) _ _).trans (hk _ (by omega)))
  · exact h.wt.same ((hne _ (by omega) (by omega) _ _).trans (hk _ (by omega)))
  · exact ((h.rd.same (hk _ (by omega))).set i _).other (by omega) _
  · exact (((h.cn.same (hk _ (by omega))).other (by omega) _).set g _).congr (fun j hj => by unfold updV; split <;> simp_all)
  · by_cases hji : j = i
    · subst hji
      simp only [updV, if_pos]
      have h9 : (rl j ++ [g]).length = (rl j).length + 1 := by simp
      rw [h9, encI_map_push]
      exact ownsRow_setCell_below (ownsRow_setCell_below hown (a := ⟨B + 2, j, none⟩) (by show B + 2 < _; omega) _) (a := ⟨B + 2 + 1, g, none⟩) (by show B + 2 + 1 < _; omega) _
    · simp only [updV, if_neg hji]
      refine row_kept (h.row j hj) (fun b hb hb1 hb2 => ?_)
      refine (hne b (by omega) (by omega) _ _).trans ((hgr.block b (by simp; omega) (fun e => ?_)).trans (Below.heap_alloc _ _ _ hb2))
      exact hji ((h.col j hj b hb).symm.trans (h.col i hi b e.symm))
  · by_cases hji : j = i
    · subst hji
      simp only [updV, if_pos] at hb
      cases hb
      rcases hat with ha | ha
      · exact (recol_old (Nat.ne_of_lt (Nat.lt_succ_of_lt ((h.row j hj).lt _ ha).2))).trans (h.col j hj _ ha)
      · subst ha
        exact recol_new
    · simp only [updV, if_neg hji] at hb
      rw [recol_old (by have := (h.row j hj).lt _ hb; omega)]
      exact h.col j hj b hb
  · refine ((((h.bel.alloc (by omega) o).grown hgr (by simp; omega) (fun k e => by have := hbase k e; omega)).setCell (p := ⟨B + 2, i, none⟩) (by show _ ≤ B + 2; omega) _)).setCell (p := ⟨B + 2 + 1, g, none⟩) (by show _ ≤ B + 2 + 1; omega) _

/-- The closure's cells as the composite lays them. -/
def kArr (v0 v2 v4 v6 v7 v9 v10 v12 v13 v16 v38 v39 : Value) : Array Value := #[v0, .int .i64 1, v2, .int .i64 1, v4, .slice none 0 0, v6, v7, .slice none 0 0, v9, v10, .slice none 0 0, v12, v13, .slice none 0 0, .slice none 0 0, v16, .slice none 0 0, .slice none 0 0, .slice none 0 0, .bool false, .slice none 0 0, .slice none 0 0, .int .i64 0, .slice none 0 0, .int .i64 0, .slice none 0 0, .slice none 0 0, .slice none 0 0, .slice none 0 0, .slice none 0 0, .slice none 0 0, .slice none 0 0, .pointer none, .int .i64 0, .slice none 0 0, .slice none 0 0, .int .i64 0, .slice none 0 0, v38, v39, .int .i64 0, .bool false, .bool false, .int .i64 0, .int .i64 0, .int .i64 0, .bool false, .bool false]

theorem build42 (n0 n6 n7 : Int) (pS : Option Addr) (a4 a9 a10 a12 a13 a16 a38 a39 : Option Addr) (l4 d4 l9 d9 l10 d10 l12 d12 l13 d13 l16 d16 l38 d38 l39 d39 : Nat) (w : World) :
    (Instr.build 42 #[(0, .int .i64 n0), (1, .int .i64 1), (2, .pointer pS), (3, .int .i64 1), (4, .slice a4 l4 d4), (6, .int .i64 n6), (7, .int .i64 n7), (9, .slice a9 l9 d9), (10, .slice a10 l10 d10), (12, .slice a12 l12 d12), (13, .slice a13 l13 d13), (16, .slice a16 l16 d16), (38, .slice a38 l38 d38), (39, .slice a39 l39 d39)]).run Ybad.prog w =
      .ok (.agg (kArr (.int .i64 n0) (.pointer pS) (.slice a4 l4 d4) (.int .i64 n6) (.int .i64 n7) (.slice a9 l9 d9) (.slice a10 l10 d10) (.slice a12 l12 d12) (.slice a13 l13 d13) (.slice a16 l16 d16) (.slice a38 l38 d38) (.slice a39 l39 d39))) w := run_build w 42 _ _ (by kernel_rfl)

theorem heap6 (w : World) (o1 o2 o3 o4 o5 o6 : Obj) (w' : World) (hw : w' = ((((((w.alloc o1).alloc o2).alloc o3).alloc o4).alloc o5).alloc o6)) : (∀ k, k < w.heap.size → w'.heap[k]? = w.heap[k]?) ∧
    w'.heap[w.heap.size]? = some o1 ∧ w'.heap[w.heap.size + 1]? = some o2 ∧ w'.heap[w.heap.size + 1 + 1]? = some o3 ∧ w'.heap[w.heap.size + 1 + 1 + 1]? = some o4 ∧ w'.heap[w.heap.size + 1 + 1 + 1 + 1]? = some o5 ∧
    w'.heap[w.heap.size + 1 + 1 + 1 + 1 + 1]? = some o6 ∧ w'.heap.size = w.heap.size + 6 := by
  subst hw
  refine ⟨fun k hk => ?_, ?_, ?_, ?_, ?_, ?_, ?_, by simp⟩
  all_goals simp only [World.alloc, Array.getElem?_push, Array.size_push]
  all_goals repeat rw [if_neg (by omega)]
  all_goals simp

/-- What build leaves. -/
structure Built (m s : Nat) (rm ad : List Nat) (wa : List Int) (w w' : World) (K : Nat) : Prop where
  all : ∃ (B n F bG S bO : Nat) (rvs : Nat → Value) (col : Nat → Nat) (v16 v38 v39 : Value), B = w.heap.size ∧ n = m + s ∧ F = 2 ^ n - 1 ∧ B + 4 ≤ bG ∧ bG < S ∧ bG < bO ∧ S ≠ bO ∧ S < K ∧ bO < K ∧ K < w'.heap.size ∧
    RS w B n m s F ad wa rvs (fun j => rdk rm j s) (fun g => cnt (fun i => (rdk rm i s).contains g) m) col w' ∧ Blk w' bG 54 (4 * s) (fSeg (fun g => cnt (fun i => (rdk rm i s).contains g) m) m s) ∧
    w'.heap[S]? = some (.cells #[.int .i64 0, .int .i64 1099511627776] 56 (0, 0)) ∧ Blk w' bO 28 m (fun _ => .slice none 0 0) ∧
    w'.heap[K]? = some (.cells (kArr (.int .i64 n) (.pointer (some ⟨S, 0, none⟩)) (.slice (some ⟨B, 0, none⟩) (2 * n + 1) (2 * n + 1)) (.int .i64 n) (.int .i64 (2 * n : Nat)) (.slice (some ⟨B + 1, 0, none⟩) n n) (.slice (some ⟨bG, 0, none⟩) s s) (.slice (some ⟨bO, 0, none⟩) m m) (.slice (some ⟨B + 2, 0, none⟩) m m) v16 v38 v39) 42 (0, 0)) ∧
    (∀ j, j < m → ∀ b, (rvs j).ownBlock = some b → b < bG)

theorem RS.same {w : World} {B n m s F : Nat} {ad : List Nat} {wa : List Int} {rvs : Nat → Value} {rl : Nat → List Nat} {c : Nat → Nat} {col : Nat → Nat} {wr w' : World} (h : RS w B n m s F ad wa rvs rl c col wr) (hb : Below wr.heap.size wr w') : RS w B n m s F ad wa rvs rl c col w' :=
  ⟨h.b.same (hb.block _ h.b.lt), h.wt.same (hb.block _ h.wt.lt), h.rd.same (hb.block _ h.rd.lt), h.cn.same (hb.block _ h.cn.lt), fun j hj => row_kept (h.row j hj) (fun g _ _ hg => hb.block g hg), h.col, h.bel.trans (hb.mono h.bel.size), h.eB⟩

set_option maxRecDepth 100000 in
set_option maxHeartbeats 40000000 in
theorem build_any (m s : Nat) (hm1 : 1 ≤ m) (hm6 : m ≤ 6) (hs3 : s ≤ 3) (rm ad : List Nat) (wa : List Int) (a3 a4 a5 : Option Addr) (c3 c4 c5 : Nat) (w : World) (h3 : AtB8 w a3 rm) (h4 : AtU64 w a4 ad) (h5 : AtI8 w a5 wa) :
    Calls Ybad.prog 5 #[.int .i64 m, .int .i64 s, .slice a3 rm.length c3, .slice a4 ad.length c4, .slice a5 wa.length c5] w fun e w' => ∃ K : Nat, e = .returned (.pointer (some ⟨K, 0, none⟩)) ∧ Built m s rm ad wa w w' K := by
  have H3 : Hid (AtB8 w a3 rm) := h3
  have H4 : Hid (AtU64 w a4 ad) := h4
  have H5 : Hid (AtI8 w a5 wa) := h5
  obtain ⟨l3, hl3⟩ : ∃ l, rm.length = l := ⟨_, rfl⟩
  obtain ⟨l4, hl4⟩ : ∃ l, ad.length = l := ⟨_, rfl⟩
  obtain ⟨l5, hl5⟩ : ∃ l, wa.length = l := ⟨_, rfl⟩
  have HL3 : Hid (rm.length = l3) := hl3
  have HL4 : Hid (ad.length = l4) := hl4
  have HL5 : Hid (wa.length = l5) := hl5
  rw [hl3, hl4, hl5]
  obtain ⟨N, hN⟩ : ∃ N, m + s = N := ⟨_, rfl⟩
  have hNI : (m : Int) + (s : Int) = (N : Int) := by omega
  have HN : Hid (m + s = N) := hN
  have hns : N ≤ 9 := by omega
  have hN1 : 1 ≤ N := by omega
  have hfw := full_wrap N hns
  obtain ⟨F, hF⟩ : ∃ F, 2 ^ N - 1 = F := ⟨_, rfl⟩
  have HF : Hid (2 ^ N - 1 = F) := hF
  have hF5 : F < 512 := by
    have : 2 ^ N ≤ 512 := Nat.pow_le_pow_right (n := 2) (by omega) hns
    have := Nat.two_pow_pos N
    omega
  rw [hF] at hfw
  obtain ⟨M, hM⟩ : ∃ M, 2 * N + 1 = M := ⟨_, rfl⟩
  have HM : Hid (2 * N + 1 = M) := hM
  have hM19 : M ≤ 19 := by omega
  have hM1 : 2 * N < M := by omega
  have h2N : (2 : Int) * (N : Int) = ((2 * N : Nat) : Int) := by omega
  obtain ⟨N2, hN2⟩ : ∃ x, 2 * N = x := ⟨_, rfl⟩
  have HN2 : Hid (2 * N = N2) := hN2
  rw [hN2] at h2N hM1
  have hN2N : N ≤ N2 := by omega
  have hMI : (N2 : Int) + 1 = (M : Int) := by omega
  obtain ⟨C4, hC4, hC4z, mseg⟩ := make_seg s hs3
  have HC4 : Hid (C4.size = 4 * s ∧ ∀ j, j < 4 * s → C4[j]? = some (.int .i64 0)) := ⟨hC4, hC4z⟩
  obtain ⟨i0, hi0, hz0, hz1, hz2⟩ := info_parts Ybad.info3
  have HI : Hid (Ybad.prog.info? 3 = some i0 ∧ i0.zero = some (.int .i64 0) ∧ i0.size = 1 ∧ i0.bytes = 8) := ⟨hi0, hz0, hz1, hz2⟩
  have m23 := fun w => run_make_row' (P := Ybad.prog) 23 49 (.int .u64 0) 8 Ybad.underlying23 Ybad.info49 rfl .i64 .i64 M (by omega) (by omega) w
  have m28n := fun w => run_make_row' (P := Ybad.prog) 28 3 (.int .i64 0) 8 Ybad.underlying28 Ybad.info3 rfl .i64 .i64 N (by omega) (by omega) w
  have m28s := fun w => run_make_row' (P := Ybad.prog) 28 3 (.int .i64 0) 8 Ybad.underlying28 Ybad.info3 rfl .i64 .i64 s (by omega) (by omega) w
  have m30 := fun w => run_make_row' (P := Ybad.prog) 30 28 (.slice none 0 0) 24 Ybad.underlying30 Ybad.info28 rfl .i64 .i64 m (by omega) (by omega) w
  have m31 := fun w => run_make_row' (P := Ybad.prog) 31 4 (.bool false) 1 Ybad.underlying31 Ybad.info4 rfl .i64 .i64 s (by omega) (by omega) w
  clear h3 h4 h5 hl3 hl4 hl5 hN hF hM hN2 hC4 hC4z hi0 hz0 hz1 hz2
  obtain ⟨B, hB⟩ : ∃ B, B = w.heap.size := ⟨_, rfl⟩
  have HBe : Hid (B = w.heap.size) := hB
  go_enter Ybad.func5, Ybad.ntmps5
  go_wp2
  rw [← hB]
  clear hB
  go_loopw [14] (fun q wr => ∃ k : Nat, k ≤ N ∧ q = .int .i64 k ∧ Blk wr B 49 M (fBits ad F N k) ∧ Below w.heap.size w wr ∧ wr.heap.size = B + 1) (fun q _ => N - (intOf q).toNat)
  case atStart =>
    rw [HBe.out]
    refine ⟨0, Nat.zero_le _, rfl, (Blk.made w _ 49 M).congr (fun j hj => ?_), (Below.refl _ w).alloc (Nat.le_refl _) _, by simp⟩
    have : ¬ (N ≤ j ∧ j < N + 0) := by omega
    unfold fBits
    rw [if_neg this]
    rfl
  case round =>
    obtain ⟨k, hk, rfl, hblk, hbel, hsz⟩ := hrel
    have HBK : Hid (Blk wr B 49 M (fBits ad F N k)) := hblk
    have HBL : Hid (Below w.heap.size w wr) := hbel
    have HSZ : Hid (wr.heap.size = B + 1) := hsz
    by_cases hlt : k < N
    · have hck := hblk.cell (j := N + k) (by have := HM.out; omega)
      have hfk := hblk.free (N + k)
      have hNk : N + k < M := by have := HM.out; omega
      have hNkI : (N : Int) + (k : Int) = ((N + k : Nat) : Int) := by omega
      obtain ⟨Nk, hNkk⟩ : ∃ x, N + k = x := ⟨_, rfl⟩
      have HNK : Hid (N + k = Nk) := hNkk
      rw [hNkk] at hck hfk hNk hNkI
      by_cases hl : k < l4
      · obtain ⟨b, o, hb, hbl, h64, cc⟩ := H4.out k (by rw [HL4.out]; exact hl)
        have cw := Below.cells hbel hbl cc
        obtain ⟨a, ha⟩ : ∃ a, ad.getD k 0 = a := ⟨_, rfl⟩
        rw [ha] at cw h64
        have HAE : Hid (ad.getD k 0 = a) := ha
        have hand := bits_and_u64_nat a F h64 (by omega)
        obtain ⟨af, haf⟩ : ∃ x, a &&& F = x := ⟨_, rfl⟩
        have HAF : Hid (a &&& F = af) := haf
        rw [haf] at hand
        subst hb
        clear hblk hbel hsz cc ha haf hNkk
        go_wp2
        go_roundw
        case rel =>
          refine ⟨k + 1, by omega, by go_num, (HBK.out.set Nk _).congr (fun j hj => ?_), HBL.out.setCell (p := ⟨B, Nk, none⟩) (by have := HBe.out; show _ ≤ B; omega) _, by rw [World.size_setCell]; exact HSZ.out⟩
          have hNKo := HNK.out
          unfold updV fBits
          by_cases hj2 : j = Nk
          · subst hj2
            rw [if_pos rfl, if_pos (by omega), ← hNKo]
            have : N + k - N = k := by omega
            rw [this]
            unfold addv
            rw [if_pos (by rw [HL4.out]; exact hl), HAE.out, HAF.out]
          · rw [if_neg hj2]
            by_cases h9 : N ≤ j ∧ j < N + k
            · rw [if_pos h9, if_pos (by omega)]
            · rw [if_neg h9, if_neg (by omega)]
        case measure => simp [intOf]; omega
      · clear hblk hbel hsz hNkk
        go_wp2
        go_roundw
        case rel =>
          refine ⟨k + 1, by omega, by go_num, HBK.out.congr (fun j hj => ?_), HBL.out, HSZ.out⟩
          unfold fBits
          by_cases h9 : N ≤ j ∧ j < N + k
          · rw [if_pos h9, if_pos (by omega)]
          · rw [if_neg h9]
            by_cases h8 : N ≤ j ∧ j < N + (k + 1)
            · rw [if_pos h8]
              have : j - N = k := by omega
              rw [this]
              unfold addv
              rw [if_neg (by rw [HL4.out]; exact hl)]
            · rw [if_neg h8]
        case measure => simp [intOf]; omega
    · obtain rfl : k = N := by omega
      obtain ⟨wz, hwz⟩ : ∃ wz, wz = wr := ⟨_, rfl⟩
      rw [← hwz] at HBK HBL HSZ hblk hsz ⊢
      have c2 := hblk.cell (j := N2) hM1
      have f2 := hblk.free N2
      clear hwz hblk hbel
      go_wp2
      clear hsz
      go_loopw [16] (fun q wr => ∃ u : Nat, u ≤ k ∧ q = .int .i64 u ∧ Blk wr B 49 M (fBitsF ad F k) ∧ Blk wr (B + 1) 3 k (fWait wa u) ∧ Below w.heap.size w wr ∧ wr.heap.size = B + 2) (fun q _ => k - (intOf q).toNat)
      case atStart =>
        have hbe := HBe.out
        have hsz := HSZ.out
        have hmd := Blk.made (wz.setCell ⟨B, N2, none⟩ (.int .u64 F)) (.int .i64 0) 3 k
        rw [World.size_setCell, hsz] at hmd
        refine ⟨0, Nat.zero_le _, rfl, ?_, hmd.congr (fun j hj => rfl), (HBL.out.setCell (p := ⟨B, N2, none⟩) (by show _ ≤ B; omega) _).alloc (by simp; omega) _, by simp [hsz]⟩
        unfold fBitsF
        rw [HN2.out]
        exact (HBK.out.set N2 _).alloc _
      case round =>
        obtain ⟨u, hu, rfl, hb1, hb2, hbel, hsz⟩ := hrel
        have HB1 : Hid (Blk wr B 49 M (fBitsF ad F k)) := hb1
        have HB2 : Hid (Blk wr (B + 1) 3 k (fWait wa u)) := hb2
        have HBL2 : Hid (Below w.heap.size w wr) := hbel
        have HSZ2 : Hid (wr.heap.size = B + 2) := hsz
        by_cases hlt2 : u < k
        · have cu := hb2.cell (j := u) hlt2
          have fu := hb2.free u
          by_cases hl : u < l5
          · obtain ⟨b, o, hb, hbl, h8, cc⟩ := H5.out u (by rw [HL5.out]; exact hl)
            have cw := Below.cells hbel hbl cc
            obtain ⟨a, ha⟩ : ∃ a, wa.getD u 0 = a := ⟨_, rfl⟩
            rw [ha] at cw h8
            have HAE : Hid (wa.getD u 0 = a) := ha
            have hwa : IntKind.i64.wrap a = a := by rw [IntKind.wrap_i64]; omega
            subst hb
            clear hb1 hb2 hbel hsz cc ha
            go_wp2
            go_roundw
            case rel =>
              have hbe := HBe.out
              refine ⟨u + 1, by omega, by go_num, HB1.out.other (by omega) _, (HB2.out.set u _).congr (fun j hj => ?_), HBL2.out.setCell (p := ⟨B + 1, u, none⟩) (by show _ ≤ B + 1; omega) _, by rw [World.size_setCell]; exact HSZ2.out⟩
              unfold updV fWait
              by_cases hj2 : j = u
              · subst hj2
                rw [if_pos rfl, if_pos (by omega)]
                unfold waitv
                rw [if_pos (by rw [HL5.out]; exact hl), HAE.out]
              · rw [if_neg hj2]
                by_cases h9 : j < u
                · rw [if_pos h9, if_pos (by omega)]
                · rw [if_neg h9, if_neg (by omega)]
            case measure => simp [intOf]; omega
          · clear hb1 hb2 hbel hsz
            go_wp2
            go_roundw
            case rel =>
              refine ⟨u + 1, by omega, by go_num, HB1.out, HB2.out.congr (fun j hj => ?_), HBL2.out, HSZ2.out⟩
              unfold fWait
              by_cases h9 : j < u
              · rw [if_pos h9, if_pos (by omega)]
              · rw [if_neg h9]
                by_cases h8 : j < u + 1
                · rw [if_pos h8]
                  unfold waitv
                  have : j = u := by omega
                  rw [if_neg (by rw [HL5.out]; omega)]
                · rw [if_neg h8]
            case measure => simp [intOf]; omega
        · obtain rfl : u = k := by omega
          obtain ⟨wy, hwy⟩ : ∃ wy, wy = wr := ⟨_, rfl⟩
          rw [← hwy] at HB1 HB2 HBL2 HSZ2 hsz ⊢
          clear hwy hb1 hb2 hbel
          go_wp2
          go_loopw [19] (fun q wr => ∃ (i : Nat) (rvs : Nat → Value) (col : Nat → Nat), i ≤ m ∧ q = .int .i64 i ∧ RS w B u m s F ad wa rvs (fun j => if j < i then rdk rm j s else []) (fun g => cnt (fun i' => (rdk rm i' s).contains g) i) col wr) (fun q _ => m - (intOf q).toNat)
          case atStart =>
            have hbe := HBe.out
            have hs2 := HSZ2.out
            have e1 := Blk.made wy (.slice none 0 0) 28 m
            have e2 := Blk.made (wy.alloc (.cells (madeCells #[.slice none 0 0] m) 28)) (.int .i64 0) 3 s
            rw [hs2] at e1
            rw [World.size_alloc, hs2] at e2
            refine ⟨0, fun _ => .slice none 0 0, fun _ => 0, Nat.zero_le _, rfl, ?_⟩
            refine ⟨?_, ?_, e1.alloc _, e2.congr (fun j _ => rfl), fun j hj => ?_, fun j hj g hg => (by cases hg), ?_, hbe⟩
            · have := (HB1.out.alloc (.cells (madeCells #[.slice none 0 0] m) 28)).alloc (.cells (madeCells #[.int .i64 0] s) 3)
              rw [HM.out]
              exact this
            · exact (HB2.out.alloc _).alloc _
            · exact World.ownsRow_nil _ _ _ _
            · exact (HBL2.out.alloc (by omega) _).alloc (by simp; omega) _
          case round =>
            obtain ⟨i, rvs, col, hi, rfl, hR⟩ := hrel
            have HR : Hid (RS w B u m s F ad wa rvs (fun j => if j < i then rdk rm j s else []) (fun g => cnt (fun i' => (rdk rm i' s).contains g) i) col wr) := hR
            by_cases hlt3 : i < m
            · by_cases hl : i < l3
              · have hsame : RS w B u m s F ad wa rvs (fun j => if j < i then rdk rm j s else if j = i then rdk rm i 0 else []) (fun g => cnt (fun i' => (rdk rm i' s).contains g) i + if g < 0 ∧ (rm.getD i 0).testBit g = true then 1 else 0) col wr :=
                  hR.drop (fun j hj => by split; rfl; split; simp [rdk]; rfl) (fun g hg => by simp)
                have HSM : Hid _ := hsame
                obtain ⟨wx, hwx⟩ : ∃ wx, wx = wr := ⟨_, rfl⟩
                rw [← hwx] at HSM ⊢
                clear hR hsame hwx
                go_wp2
                go_loopw [20] (fun q wr => ∃ (g : Nat) (rvs : Nat → Value) (col : Nat → Nat), g ≤ s ∧ q = .int .i64 g ∧ RS w B u m s F ad wa rvs (fun j => if j < i then rdk rm j s else if j = i then rdk rm i g else []) (fun g' => cnt (fun i' => (rdk rm i' s).contains g') i + if g' < g ∧ (rm.getD i 0).testBit g' = true then 1 else 0) col wr) (fun q _ => s - (intOf q).toNat)
                case atStart => exact ⟨0, rvs, col, Nat.zero_le _, rfl, HSM.out⟩
                case round =>
                  obtain ⟨g, rvs2, col2, hg, rfl, hR⟩ := hrel
                  have HR2 : Hid (RS w B u m s F ad wa rvs2 (fun j => if j < i then rdk rm j s else if j = i then rdk rm i g else []) (fun g' => cnt (fun i' => (rdk rm i' s).contains g') i + if g' < g ∧ (rm.getD i 0).testBit g' = true then 1 else 0) col2 wr) := hR
                  by_cases hlt4 : g < s
                  · obtain ⟨b, o, hb, hbl, h256, cc⟩ := H3.out i (by rw [HL3.out]; exact hl)
                    have cw := Below.cells hR.bel hbl cc
                    obtain ⟨x, hx⟩ : ∃ x, rm.getD i 0 = x := ⟨_, rfl⟩
                    have HX : Hid (rm.getD i 0 = x) := hx
                    rw [hx] at cw h256
                    have hbt := bit_u8 h256 (show g < 3 by omega)
                    subst hb
                    clear cc
                    cases hxb : x.testBit g with
                    | false =>
                      rw [hxb] at hbt
                      have HXB : Hid (x.testBit g = false) := hxb
                      clear hxb hR hx
                      go_wp2
                      go_roundw
                      case rel =>
                        refine ⟨g + 1, rvs2, col2, by omega, by go_num, HR2.out.drop (fun j hj => ?_) (fun g' hg' => ?_)⟩
                        · split
                          · rfl
                          · split
                            · rw [rdk_succ_out (by rw [HL3.out]; exact hl) (by rw [HX.out]; exact HXB.out)]
                            · rfl
                        · by_cases hgg : g' = g
                          · subst hgg
                            have h1 : ¬ (rm.getD i 0).testBit g' = true := by rw [HX.out, HXB.out]; simp
                            rw [if_neg (fun h => h1 h.2), if_neg (fun h => h1 h.2)]
                          · by_cases h1 : (rm.getD i 0).testBit g' = true
                            · by_cases h2 : g' < g
                              · rw [if_pos ⟨h2, h1⟩, if_pos ⟨by omega, h1⟩]
                              · rw [if_neg (fun h => h2 h.1), if_neg (fun h => by omega)]
                            · rw [if_neg (fun h => h1 h.2), if_neg (fun h => h1 h.2)]
                      case measure => simp [intOf]; omega
                    | true =>
                      rw [hxb] at hbt
                      have HXB : Hid (x.testBit g = true) := hxb
                      have cri := hR.rd.cell (j := i) hlt3
                      have fri := hR.rd.free i
                      have ccn := hR.cn.cell (j := g) hlt4
                      have fcn := hR.cn.free g
                      have hrow := hR.row i hlt3
                      have e1 : (if i < i then rdk rm i s else if i = i then rdk rm i g else []) = rdk rm i g := by simp
                      rw [e1] at hrow
                      have HROW : Hid (wr.ownsRow (B + 4) 3 1 (rvs2 i) (rdk rm i g).length ((rdk rm i g).map encI)) := hrow
                      have hsz4 : B + 4 ≤ wr.heap.size := hR.cn.lt
                      have hlrow : (rdk rm i g).length ≤ 3 := by
                        unfold rdk
                        rw [if_pos (by rw [HL3.out]; exact hl)]
                        have := List.length_filter_le (fun g => (rm.getD i 0).testBit g) (List.range g)
                        rw [List.length_range] at this
                        omega
                      have hcn0 : cnt (fun i' => (rdk rm i' s).contains g) i ≤ i := cnt_bound _ _
                      have hcg0 : (if g < g ∧ (rm.getD i 0).testBit g = true then 1 else 0) = 0 := if_neg (fun h => by omega)
                      rw [hcg0, Nat.add_zero] at ccn
                      obtain ⟨cg, hcg⟩ : ∃ c, cnt (fun i' => (rdk rm i' s).contains g) i = c := ⟨_, rfl⟩
                      have HCG : Hid (cnt (fun i' => (rdk rm i' s).contains g) i = cg) := hcg
                      rw [hcg] at ccn hcn0
                      have HB0 : Hid (∀ b, (rvs2 i).ownBlock = some b → B + 4 ≤ b) := base_le hrow
                      clear hxb hR hx hrow e1 hcg hcg0
                      have HFAR : Hid (∀ (w2 : World) (o : Obj), (wr.alloc o).grownBy w2 (rvs2 i).ownBlock → w2.cell? ⟨B + 2, i, none⟩ = some (rvs2 i) ∧ w2.frozen? ⟨B + 2, i, none⟩ = false ∧ w2.cell? ⟨B + 2 + 1, g, none⟩ = some (.int .i64 (cg : Nat)) ∧ w2.frozen? ⟨B + 2 + 1, g, none⟩ = false) := fun w2 o hgr => by
                        have hk : ∀ b, b < B + 4 → w2.heap[b]? = wr.heap[b]? := fun b hb => (hgr.block b (by rw [World.size_alloc]; omega) (fun e => by have := HB0.out b e.symm; omega)).trans (Below.heap_alloc _ _ _ (by omega))
                        exact ⟨(World.cell?_of_block (w := wr) (hk (B + 2) (by omega))).trans cri, (World.frozen?_of_block (w := wr) (hk (B + 2) (by omega))).trans fri, (World.cell?_of_block (w := wr) (hk (B + 2 + 1) (by omega))).trans ccn, (World.frozen?_of_block (w := wr) (hk (B + 2 + 1) (by omega))).trans fcn⟩
                      go_wp2_with (at_builtin; go_loud (refine wpList_append_lies _ (by rfl) _ _ _ (by rfl) (B + 4) 3 i0 _ 1 8 Ybad.underlying28 HI.out.1 HI.out.2.1 HI.out.2.2.1 HI.out.2.2.2 rfl (by omega) (rvs2 i) (rdk rm i g).length ((rdk rm i g).map encI) (by rfl) (HROW.out.alloc _) ⟨wr.heap.size, 0, none⟩ 1 1 [.int .i64 g] (by rfl) (by rfl) (World.news_of_block (cs := #[.int .i64 g]) (t := 3) (fr := (0, 0)) (heap_alloc_new wr _)) (by simp [Value.oneCell']) (by omega) (by unfold maxLen; omega) (by omega) (by rw [World.size_alloc]; omega) (wr.heap.size + 1) (by simp) ?_; intro gg cap w2 hown hgrow hat hlt9; obtain ⟨q1, q2, q3, q4⟩ := HFAR.out _ _ hgrow; have HOWN2 : Hid _ := hown; have HGR : Hid _ := hgrow; have HAT : Hid _ := hat; clear hown hgrow hat))
                      go_roundw
                      case rel =>
                        have hcgo := HCG.out
                        have e1 : (if i < i then rdk rm i s else if i = i then rdk rm i g else []) = rdk rm i g := by simp
                        have hA := HR2.out.app hlt3 hlt4 (G := gg) (cap := cap) (by rw [e1]; exact HOWN2.out) HGR.out HAT.out
                        have e2 : (cnt (fun i' => (rdk rm i' s).contains g) i + if g < g ∧ (rm.getD i 0).testBit g = true then 1 else 0) = cg := by rw [if_neg (fun h => by omega), Nat.add_zero, hcgo]
                        rw [e1] at hA
                        simp only [e2] at hA
                        have hA2 : RS w B u m s F ad wa _ (fun j => if j < i then rdk rm j s else if j = i then rdk rm i (g + 1) else []) (fun g' => cnt (fun i' => (rdk rm i' s).contains g') i + if g' < g + 1 ∧ (rm.getD i 0).testBit g' = true then 1 else 0) _ _ := hA.drop (fun j hj => by
                          by_cases hji : j = i
                          · subst hji
                            simp only [if_pos, Nat.lt_irrefl, if_false]
                            rw [rdk_succ_in (by rw [HL3.out]; exact hl) (by rw [HX.out]; exact HXB.out)]
                          · simp only [if_neg hji]) (fun g' hg' => by
                          by_cases hgg : g' = g
                          · subst hgg
                            rw [if_pos rfl, if_pos ⟨by omega, by rw [HX.out]; exact HXB.out⟩, hcgo]
                          · rw [if_neg hgg]
                            by_cases h1 : (rm.getD i 0).testBit g' = true
                            · by_cases h2 : g' < g
                              · rw [if_pos ⟨h2, h1⟩, if_pos ⟨by omega, h1⟩]
                              · rw [if_neg (fun h => h2 h.1), if_neg (fun h => by omega)]
                            · rw [if_neg (fun h => h1 h.2), if_neg (fun h => h1 h.2)])
                        exact ⟨g + 1, _, _, by omega, by go_num, hA2⟩
                      case measure => simp [intOf]; omega
                  · obtain rfl : g = s := by omega
                    have HD : Hid (RS w B u m g F ad wa rvs2 (fun j => if j < i + 1 then rdk rm j g else []) (fun g' => cnt (fun i' => (rdk rm i' g).contains g') (i + 1)) col2 wr) := hR.drop (fun j hj => by
                      by_cases h1 : j < i
                      · rw [if_pos h1, if_pos (by omega)]
                      · rw [if_neg h1]
                        by_cases h2 : j = i
                        · subst h2; rw [if_pos rfl, if_pos (by omega)]
                        · rw [if_neg h2, if_neg (by omega)]) (fun g' hg' => by
                      show _ = cnt _ i + (if (rdk rm i g).contains g' = true then 1 else 0)
                      rw [rdk_mem]
                      have h1 : i < rm.length := by rw [HL3.out]; exact hl
                      simp only [h1, hg', decide_true, Bool.true_and, true_and])
                    clear hR HR2
                    go_wp2
                    go_roundw
                    case rel => exact ⟨i + 1, rvs2, col2, by omega, by go_num, HD.out⟩
                    case measure => simp [intOf]; omega
              · have HD : Hid (RS w B u m s F ad wa rvs (fun j => if j < i + 1 then rdk rm j s else []) (fun g' => cnt (fun i' => (rdk rm i' s).contains g') (i + 1)) col wr) := hR.drop (fun j hj => by
                  by_cases h1 : j < i
                  · rw [if_pos h1, if_pos (by omega)]
                  · rw [if_neg h1]
                    by_cases h2 : j = i
                    · subst h2; rw [if_pos (by omega)]; unfold rdk; rw [if_neg (by rw [HL3.out]; exact hl)]
                    · rw [if_neg (by omega)]) (fun g' hg' => by
                  show _ = cnt _ i + (if (rdk rm i s).contains g' = true then 1 else 0)
                  rw [rdk_mem]
                  have h1 : ¬ i < rm.length := by rw [HL3.out]; exact hl
                  simp [h1])
                clear hR HR
                go_wp2
                go_roundw
                case rel => exact ⟨i + 1, rvs, col, by omega, by go_num, HD.out⟩
                case measure => simp [intOf]; omega
            · obtain rfl : i = m := by omega
              have HRF : Hid (RS w B u i s F ad wa rvs (fun j => rdk rm j s) (fun g => cnt (fun i' => (rdk rm i' s).contains g) i) col wr) := hR.drop (fun j hj => if_pos hj) (fun g hg => rfl)
              obtain ⟨bG, hbG⟩ : ∃ bG, bG = wr.heap.size := ⟨_, rfl⟩
              have HBG : Hid (bG = wr.heap.size) := hbG
              obtain ⟨wv, hwv⟩ : ∃ wv, wv = wr := ⟨_, rfl⟩
              rw [← hwv] at HRF HBG hbG ⊢
              clear hR HR hwv
              go_wp2
              rw [← hbG]
              clear hbG
              go_loopw [22] (fun q wr => ∃ g : Nat, g ≤ s ∧ q = .int .i64 g ∧ Blk wr bG 54 (4 * s) (fSeg (fun g => cnt (fun i' => (rdk rm i' s).contains g) i) i g) ∧ Below bG wv wr ∧ wr.heap.size = bG + 1) (fun q _ => s - (intOf q).toNat)
              case atStart =>
                rw [HBG.out]
                refine ⟨0, Nat.zero_le _, rfl, ⟨C4, heap_alloc_new wv _, HC4.out.1, fun j hj => ?_⟩, (Below.refl _ wv).alloc (Nat.le_refl _) _, by simp⟩
                rw [HC4.out.2 j hj]
                unfold fSeg
                rw [if_neg (by omega)]
                rfl
              case round =>
                obtain ⟨g, hg, rfl, hblk, hbel, hsz⟩ := hrel
                have HBK5 : Hid (Blk wr bG 54 (4 * s) (fSeg (fun g => cnt (fun i' => (rdk rm i' s).contains g) i) i g)) := hblk
                have HBL5 : Hid (Below bG wv wr) := hbel
                have HSZ5 : Hid (wr.heap.size = bG + 1) := hsz
                by_cases hlt5 : g < s
                · have hbG4 : B + 4 ≤ bG := by rw [HBG.out]; exact HRF.out.cn.lt
                  have ccn := Below.cells hbel (b := B + 2 + 1) (by omega) (HRF.out.cn.cell (j := g) hlt5)
                  have hcb : cnt (fun i' => (rdk rm i' s).contains g) i ≤ i := cnt_bound _ _
                  obtain ⟨cg, hcg⟩ : ∃ c, cnt (fun i' => (rdk rm i' s).contains g) i = c := ⟨_, rfl⟩
                  have HCG : Hid (cnt (fun i' => (rdk rm i' s).contains g) i = cg) := hcg
                  rw [hcg] at ccn hcb
                  have s0 := hblk.cell (j := g * 4) (by omega)
                  have s1 := hblk.cell (j := g * 4 + 1) (by omega)
                  have s2 := hblk.cell (j := g * 4 + 2) (by omega)
                  have s3 := hblk.cell (j := g * 4 + 3) (by omega)
                  have f0 := hblk.free (g * 4)
                  have f1 := hblk.free (g * 4 + 1)
                  have f2 := hblk.free (g * 4 + 2)
                  have f3 := hblk.free (g * 4 + 3)
                  have hGB : bG ≠ B + 2 + 1 := by omega
                  have hig : (i : Int) + (g : Int) = ((i + g : Nat) : Int) := by omega
                  obtain ⟨ig, higN⟩ : ∃ x, i + g = x := ⟨_, rfl⟩
                  have HIG : Hid (i + g = ig) := higN
                  rw [higN] at hig
                  clear hblk hbel hsz hcg higN
                  go_wp2
                  go_region
                  go_wp2
                  go_roundw
                  case rel =>
                    refine ⟨g + 1, by omega, by go_num, ?_, ?_, ?_⟩
                    · refine (((((HBK5.out).set (g * 4) (.int .i64 0)).set (g * 4 + 1) (.int .i64 ig)).set (g * 4 + 2) (.int .i64 cg)).set (g * 4 + 3) (.int .i64 cg)).congr (fun j hj => ?_)
                      unfold updV fSeg
                      have h4 : j = g * 4 ∨ j = g * 4 + 1 ∨ j = g * 4 + 2 ∨ j = g * 4 + 3 ∨ (j ≠ g * 4 ∧ j ≠ g * 4 + 1 ∧ j ≠ g * 4 + 2 ∧ j ≠ g * 4 + 3) := by omega
                      have hco := HCG.out
                      have hio := HIG.out
                      rcases h4 with rfl | rfl | rfl | rfl | ⟨n0, n1, n2, n3⟩
                      · rw [if_neg (by omega), if_neg (by omega), if_neg (by omega), if_pos rfl, if_pos (by omega), if_pos (by omega)]
                        rfl
                      · rw [if_neg (by omega), if_neg (by omega), if_pos rfl, if_pos (by omega), if_neg (by omega), if_pos (by omega)]
                        have : (g * 4 + 1) / 4 = g := by omega
                        rw [this, hio]
                      · rw [if_neg (by omega), if_pos rfl, if_pos (by omega), if_neg (by omega), if_neg (by omega)]
                        have : (g * 4 + 2) / 4 = g := by omega
                        rw [this]
                        exact congrArg (fun x : Nat => Value.int IntKind.i64 (x : Int)) hco.symm
                      · rw [if_pos rfl, if_pos (by omega), if_neg (by omega), if_neg (by omega)]
                        have : (g * 4 + 3) / 4 = g := by omega
                        rw [this]
                        exact congrArg (fun x : Nat => Value.int IntKind.i64 (x : Int)) hco.symm
                      · rw [if_neg n3, if_neg n2, if_neg n1, if_neg n0]
                        by_cases h9 : j / 4 < g
                        · have h8 : j / 4 < g + 1 := by omega
                          rw [if_pos h9, if_pos h8]
                        · have h8 : ¬ j / 4 < g + 1 := by omega
                          rw [if_neg h9, if_neg h8]
                    · exact (((((HBL5.out).setCell (p := ⟨bG, g * 4, none⟩) (Nat.le_refl _) _).setCell (p := ⟨bG, g * 4 + 1, none⟩) (Nat.le_refl _) _).setCell (p := ⟨bG, g * 4 + 2, none⟩) (Nat.le_refl _) _).setCell (p := ⟨bG, g * 4 + 3, none⟩) (Nat.le_refl _) _).drew
                    · show _ = bG + 1
                      rw [← HSZ5.out]
                      simp
                  case measure => simp [intOf]; omega
                · obtain rfl : g = s := by omega
                  obtain ⟨wt, hwt⟩ : ∃ wt, wt = wr := ⟨_, rfl⟩
                  rw [← hwt] at HBK5 HBL5 HSZ5 hsz ⊢
                  clear hwt hblk hbel
                  have HFIN : Hid (∀ (w' : World) (S bO K : Nat) (v16 v38 v39 : Value), w'.heap[K]? = some (.cells (kArr (.int .i64 u) (.pointer (some ⟨S, 0, none⟩)) (.slice (some ⟨B, 0, none⟩) M M) (.int .i64 u) (.int .i64 N2) (.slice (some ⟨B + 1, 0, none⟩) u u) (.slice (some ⟨bG, 0, none⟩) g g) (.slice (some ⟨bO, 0, none⟩) i i) (.slice (some ⟨B + 2, 0, none⟩) i i) v16 v38 v39) 42 (0, 0)) →
                      w'.heap[S]? = some (.cells #[.int .i64 0, .int .i64 1099511627776] 56 (0, 0)) → w'.heap[bO]? = some (.cells (madeCells #[.slice none 0 0] i) 28 (0, 0)) → bG < S → bG < bO → S < K → bO < K → S ≠ bO → (∀ k, k < bG + 1 → w'.heap[k]? = wt.heap[k]?) → w'.os = wt.os → w'.tape = wt.tape → w'.output = wt.output → bG + 1 ≤ w'.heap.size → Built i g rm ad wa w w' K) := by
                    intro w' S bO K v16 v38 v39 hK hS hO h1 h2 h3 h4 h5 hk ho ht hp hz
                    have hbe : Below (bG + 1) wt w' := ⟨ho, ht, hp, by rw [HSZ5.out]; exact hz, hk⟩
                    have hsb : wv.heap.size = bG := HBG.out.symm
                    have hbv : Below wv.heap.size wv w' := by rw [hsb]; exact HBL5.out.trans (hbe.mono (by omega))
                    refine ⟨B, u, F, bG, S, bO, rvs, col, v16, v38, v39, HBe.out, HN.out.symm, HF.out.symm, ?_, h1, h2, h5, h3, h4, (Array.getElem?_eq_some_iff.1 hK).1, HRF.out.same hbv, HBK5.out.same (hk bG (by omega)), hS, ⟨_, hO, size_madeCells _ _, fun j hj => made_one _ _ _ hj⟩, ?_, fun j hj b hb => ?_⟩
                    · rw [← hsb]; exact HRF.out.cn.lt
                    · rw [HM.out, HN2.out]; exact hK
                    · rw [← hsb]; exact ((HRF.out.row j hj).lt b hb).2
                  have HSZW : Hid (wt.heap.size = bG + 1) := HSZ5.out
                  clear HBK5 HBL5 HRF HBG HB1 HB2 HBL2 HSZ2 H3 H4 H5 HL3 HL4 HL5 HC4 HI HBK HBL HSZ mseg m23 m28s HF hF5
                  go_wp2
                  have hwN2 : IntKind.i64.wrap (N2 : Int) = N2 := by rw [IntKind.wrap_i64]; omega
                  refine wp_region_L (fun _ => True) 20 21 (by kernel_rfl) (by kernel_rfl) ?_
                  refine wpU_take (i := 0) (v := ?_) rfl (by kernel_rfl) (by kernel_rfl) (by kernel_rfl) (by kernel_rfl) (fun _ _ _ h => h) (by rfl) ?_ trivial ?_
                  rotate_left
                  · (intro wS hwS; (try dsimp only at hwS); go_simp; try with_reducible rfl)
                  simp only [Act.put, List.getElem_toArray, List.getElem_cons_zero, List.getElem_cons_succ, List.setIfInBounds_toArray, List.set_cons_zero, List.set_cons_succ]
                  refine wpU_take (i := 1) (v := ?_) rfl (by kernel_rfl) (by kernel_rfl) (by kernel_rfl) (by kernel_rfl) (fun _ _ _ h => h) (by rfl) ?_ trivial ?_
                  rotate_left
                  · (intro wS hwS; (try dsimp only at hwS); go_simp; try with_reducible rfl)
                  simp only [Act.put, List.getElem_toArray, List.getElem_cons_zero, List.getElem_cons_succ, List.setIfInBounds_toArray, List.set_cons_zero, List.set_cons_succ]
                  refine wpU_take (i := 3) (v := ?_) rfl (by kernel_rfl) (by kernel_rfl) (by kernel_rfl) (by kernel_rfl) (fun _ _ _ h => h) (by rfl) ?_ trivial ?_
                  rotate_left
                  · (intro wS hwS; (try dsimp only at hwS); go_simp; try with_reducible rfl)
                  simp only [Act.put, List.getElem_toArray, List.getElem_cons_zero, List.getElem_cons_succ, List.setIfInBounds_toArray, List.set_cons_zero, List.set_cons_succ]
                  refine wpU_take (i := 4) (v := ?_) rfl (by kernel_rfl) (by kernel_rfl) (by kernel_rfl) (by kernel_rfl) (fun _ _ _ h => h) (by rfl) ?_ trivial ?_
                  rotate_left
                  · (intro wS hwS; (try dsimp only at hwS); go_simp; try with_reducible rfl)
                  simp only [Act.put, List.getElem_toArray, List.getElem_cons_zero, List.getElem_cons_succ, List.setIfInBounds_toArray, List.set_cons_zero, List.set_cons_succ]
                  refine wpU_take (i := 5) (v := ?_) rfl (by kernel_rfl) (by kernel_rfl) (by kernel_rfl) (by kernel_rfl) (fun _ _ _ h => h) (by rfl) ?_ trivial ?_
                  rotate_left
                  · (intro wS hwS; (try dsimp only at hwS); go_simp; try with_reducible rfl)
                  simp only [Act.put, List.getElem_toArray, List.getElem_cons_zero, List.getElem_cons_succ, List.setIfInBounds_toArray, List.set_cons_zero, List.set_cons_succ]
                  refine wpU_take (i := 6) (v := ?_) rfl (by kernel_rfl) (by kernel_rfl) (by kernel_rfl) (by kernel_rfl) (fun _ _ _ h => h) (by rfl) ?_ trivial ?_
                  rotate_left
                  · (intro wS hwS; (try dsimp only at hwS); go_simp; try with_reducible rfl)
                  simp only [Act.put, List.getElem_toArray, List.getElem_cons_zero, List.getElem_cons_succ, List.setIfInBounds_toArray, List.set_cons_zero, List.set_cons_succ]
                  refine wpU_take (i := 7) (v := ?_) rfl (by kernel_rfl) (by kernel_rfl) (by kernel_rfl) (by kernel_rfl) (fun _ _ _ h => h) (by rfl) ?_ trivial ?_
                  rotate_left
                  · (intro wS hwS; (try dsimp only at hwS); go_simp; try with_reducible rfl)
                  simp only [Act.put, List.getElem_toArray, List.getElem_cons_zero, List.getElem_cons_succ, List.setIfInBounds_toArray, List.set_cons_zero, List.set_cons_succ]
                  refine wpU_take (i := 8) (v := ?_) rfl (by kernel_rfl) (by kernel_rfl) (by kernel_rfl) (by kernel_rfl) (fun _ _ _ h => h) (by rfl) ?_ trivial ?_
                  rotate_left
                  · (intro wS hwS; (try dsimp only at hwS); go_simp; try with_reducible rfl)
                  simp only [Act.put, List.getElem_toArray, List.getElem_cons_zero, List.getElem_cons_succ, List.setIfInBounds_toArray, List.set_cons_zero, List.set_cons_succ]
                  refine wpU_take (i := 9) (v := ?_) rfl (by kernel_rfl) (by kernel_rfl) (by kernel_rfl) (by kernel_rfl) (fun _ _ _ h => h) (by rfl) ?_ trivial ?_
                  rotate_left
                  · (intro wS hwS; (try dsimp only at hwS); go_simp; try with_reducible rfl)
                  simp only [Act.put, List.getElem_toArray, List.getElem_cons_zero, List.getElem_cons_succ, List.setIfInBounds_toArray, List.set_cons_zero, List.set_cons_succ]
                  refine wpU_take (i := 11) (v := ?_) rfl (by kernel_rfl) (by kernel_rfl) (by kernel_rfl) (by kernel_rfl) (fun _ _ _ h => h) (by rfl) ?_ trivial ?_
                  rotate_left
                  · (intro wS hwS; (try dsimp only at hwS); go_simp; try with_reducible rfl)
                  simp only [Act.put, List.getElem_toArray, List.getElem_cons_zero, List.getElem_cons_succ, List.setIfInBounds_toArray, List.set_cons_zero, List.set_cons_succ]
                  refine wpU_take (i := 12) (v := ?_) rfl (by kernel_rfl) (by kernel_rfl) (by kernel_rfl) (by kernel_rfl) (fun _ _ _ h => h) (by rfl) ?_ trivial ?_
                  rotate_left
                  · (intro wS hwS; (try dsimp only at hwS); go_simp; try with_reducible rfl)
                  simp only [Act.put, List.getElem_toArray, List.getElem_cons_zero, List.getElem_cons_succ, List.setIfInBounds_toArray, List.set_cons_zero, List.set_cons_succ]
                  refine wpU_take (i := 14) (v := ?_) rfl (by kernel_rfl) (by kernel_rfl) (by kernel_rfl) (by kernel_rfl) (fun _ _ _ h => h) (by rfl) ?_ trivial ?_
                  rotate_left
                  · (intro wS hwS; (try dsimp only at hwS); go_simp; try with_reducible rfl)
                  simp only [Act.put, List.getElem_toArray, List.getElem_cons_zero, List.getElem_cons_succ, List.setIfInBounds_toArray, List.set_cons_zero, List.set_cons_succ]
                  refine wpU_take (i := 16) (v := ?_) rfl (by kernel_rfl) (by kernel_rfl) (by kernel_rfl) (by kernel_rfl) (fun _ _ _ h => h) (by rfl) ?_ trivial ?_
                  rotate_left
                  · (intro wS hwS; (try dsimp only at hwS); go_simp; try with_reducible rfl)
                  simp only [Act.put, List.getElem_toArray, List.getElem_cons_zero, List.getElem_cons_succ, List.setIfInBounds_toArray, List.set_cons_zero, List.set_cons_succ]
                  refine makers_go 21 [{ idx := 2, dst := 145, val := fun b => .pointer (some ⟨b, 0, none⟩), obj := .cells #[.int .i64 0, .int .i64 1099511627776] 56 }, { idx := 10, dst := 153, val := fun b => .slice (some ⟨b, 0, none⟩) i i, obj := .cells (madeCells #[.slice none 0 0] i) 28 },
                      { idx := 13, dst := 156, val := fun b => .slice (some ⟨b, 0, none⟩) g g, obj := .cells (madeCells #[.bool false] g) 4 }, { idx := 15, dst := 158, val := fun b => .slice (some ⟨b, 0, none⟩) u u, obj := .cells (madeCells #[.int .i64 0] u) 3 }, { idx := 17, dst := 160, val := fun b => .slice (some ⟨b, 0, none⟩) u u, obj := .cells (madeCells #[.int .i64 0] u) 3 }] [18, 19, 20]
                    (fun _ => trivial) (by kernel_rfl) rfl (by kernel_rfl) (by intro m hm; simp at hm; rcases hm with rfl | rfl | rfl | rfl | rfl <;> simp) (by simp) (fun a => a.tmps.size = 163 ∧ a.tmps[144]? = some (.agg #[.int .i64 0, .int .i64 1099511627776]) ∧ a.tmps[152]? = some (.int .i64 i) ∧ a.tmps[155]? = some (.int .i64 g) ∧ a.tmps[157]? = some (.int .i64 u) ∧ a.tmps[159]? = some (.int .i64 u) ∧ a.tmps[143]? = some (.int .i64 u) ∧ a.tmps[146]? = some (.slice (some ⟨B, 0, none⟩) M M) ∧ a.tmps[147]? = some (.int .i64 u) ∧ a.tmps[149]? = some (.int .i64 N2) ∧ a.tmps[150]? = some (.slice (some ⟨B + 1, 0, none⟩) u u) ∧ a.tmps[151]? = some (.slice (some ⟨bG, 0, none⟩) g g) ∧ a.tmps[154]? = some (.slice (some ⟨B + 2, 0, none⟩) i i) ∧ a.defers = [])
                    ⟨rfl, rfl, rfl, rfl, rfl, rfl, rfl, rfl, rfl, rfl, rfl, rfl, rfl, rfl⟩ ?hop ?hOk ?hsz ?hdd ?hidx ?fin
                  case hsz =>
                    intro a ha m hm
                    rw [ha.1]
                    simp at hm
                    rcases hm with rfl | rfl | rfl | rfl | rfl <;> simp
                  case hdd =>
                    intro m hm m' hm' h
                    simp at hm hm'
                    rcases hm with rfl | rfl | rfl | rfl | rfl <;> rcases hm' with rfl | rfl | rfl | rfl | rfl <;> first | rfl | (cases h)
                  case hidx =>
                    intro m hm m' hm' h
                    simp at hm hm'
                    rcases hm with rfl | rfl | rfl | rfl | rfl <;> rcases hm' with rfl | rfl | rfl | rfl | rfl <;> first | rfl | (cases h)
                  case hOk =>
                    intro m hm a v ⟨z0, t144, t152, t155, t157, t159, t143, t146, t147, t149, t150, t151, t154, dd⟩
                    simp at hm
                    rcases hm with rfl | rfl | rfl | rfl | rfl
                    all_goals (refine ⟨by simpa [Act.put] using z0, (Array.getElem?_setIfInBounds_ne (by simp)).trans t144, (Array.getElem?_setIfInBounds_ne (by simp)).trans t152, (Array.getElem?_setIfInBounds_ne (by simp)).trans t155, (Array.getElem?_setIfInBounds_ne (by simp)).trans t157, (Array.getElem?_setIfInBounds_ne (by simp)).trans t159, (Array.getElem?_setIfInBounds_ne (by simp)).trans t143, (Array.getElem?_setIfInBounds_ne (by simp)).trans t146, (Array.getElem?_setIfInBounds_ne (by simp)).trans t147, (Array.getElem?_setIfInBounds_ne (by simp)).trans t149, (Array.getElem?_setIfInBounds_ne (by simp)).trans t150, (Array.getElem?_setIfInBounds_ne (by simp)).trans t151, (Array.getElem?_setIfInBounds_ne (by simp)).trans t154, dd⟩)
                  case hop =>
                    intro m hm
                    simp at hm
                    rcases hm with rfl | rfl | rfl | rfl | rfl
                    · refine ⟨_, rfl, rfl, rfl, fun a w ha => ?_⟩
                      obtain ⟨z0, t144, t152, t155, t157, t159, t143, t146, t147, t149, t150, t151, t154, dd⟩ := ha
                      have e144 := eval_tmp t144
                      simp only [List.getElem_toArray, List.getElem_cons_zero, List.getElem_cons_succ]
                      simp only [execOp, e144]
                      go_simp
                    · refine ⟨_, rfl, rfl, rfl, fun a w ha => ?_⟩
                      obtain ⟨z0, t144, t152, t155, t157, t159, t143, t146, t147, t149, t150, t151, t154, dd⟩ := ha
                      have e152 := eval_tmp t152
                      simp only [List.getElem_toArray, List.getElem_cons_zero, List.getElem_cons_succ]
                      simp only [execOp, e152, Sem.run_bind, m30, Result.andThen_ok, Sem.run_pure]
                    · refine ⟨_, rfl, rfl, rfl, fun a w ha => ?_⟩
                      obtain ⟨z0, t144, t152, t155, t157, t159, t143, t146, t147, t149, t150, t151, t154, dd⟩ := ha
                      have e155 := eval_tmp t155
                      simp only [List.getElem_toArray, List.getElem_cons_zero, List.getElem_cons_succ]
                      simp only [execOp, e155, Sem.run_bind, m31, Result.andThen_ok, Sem.run_pure]
                    · refine ⟨_, rfl, rfl, rfl, fun a w ha => ?_⟩
                      obtain ⟨z0, t144, t152, t155, t157, t159, t143, t146, t147, t149, t150, t151, t154, dd⟩ := ha
                      have e157 := eval_tmp t157
                      simp only [List.getElem_toArray, List.getElem_cons_zero, List.getElem_cons_succ]
                      simp only [execOp, e157, Sem.run_bind, m28n, Result.andThen_ok, Sem.run_pure]
                    · refine ⟨_, rfl, rfl, rfl, fun a w ha => ?_⟩
                      obtain ⟨z0, t144, t152, t155, t157, t159, t143, t146, t147, t149, t150, t151, t154, dd⟩ := ha
                      have e159 := eval_tmp t159
                      simp only [List.getElem_toArray, List.getElem_cons_zero, List.getElem_cons_succ]
                      simp only [execOp, e159, Sem.run_bind, m28n, Result.andThen_ok, Sem.run_pure]
                  case fin =>
                    rintro a w9 ⟨z0, t144, t152, t155, t157, t159, t143, t146, t147, t149, t150, t151, t154, dd⟩ hb9 hmk
                    obtain ⟨bS, t145, hS, lS⟩ := hmk { idx := 2, dst := 145, val := fun b => .pointer (some ⟨b, 0, none⟩), obj := .cells #[.int .i64 0, .int .i64 1099511627776] 56 } (by simp)
                    obtain ⟨bO, t153, hO, lO⟩ := hmk { idx := 10, dst := 153, val := fun b => .slice (some ⟨b, 0, none⟩) i i, obj := .cells (madeCells #[.slice none 0 0] i) 28 } (by simp)
                    obtain ⟨bQ, t156, hQ, lQ⟩ := hmk { idx := 13, dst := 156, val := fun b => .slice (some ⟨b, 0, none⟩) g g, obj := .cells (madeCells #[.bool false] g) 4 } (by simp)
                    obtain ⟨b1, t158, hb1, l1⟩ := hmk { idx := 15, dst := 158, val := fun b => .slice (some ⟨b, 0, none⟩) u u, obj := .cells (madeCells #[.int .i64 0] u) 3 } (by simp)
                    obtain ⟨b2, t160, hb2, l2⟩ := hmk { idx := 17, dst := 160, val := fun b => .slice (some ⟨b, 0, none⟩) u u, obj := .cells (madeCells #[.int .i64 0] u) 3 } (by simp)
                    clear hmk
                    dsimp only at t145 t153 t156 t158 t160 hS hO hQ hb1 hb2
                    have e143 := eval_tmp t143
                    have e145 := eval_tmp t145
                    have e146 := eval_tmp t146
                    have e147 := eval_tmp t147
                    have e149 := eval_tmp t149
                    have e150 := eval_tmp t150
                    have e151 := eval_tmp t151
                    have e153 := eval_tmp t153
                    have e154 := eval_tmp t154
                    have e156 := eval_tmp t156
                    have e158 := eval_tmp t158
                    have e160 := eval_tmp t160
                    refine wpL_one (i := 18) (by kernel_rfl) rfl (fun K hK => ?_)
                    simp only [List.getElem_toArray, List.getElem_cons_zero, List.getElem_cons_succ]
                    rw [if_pos (by rfl)]
                    unfold Oper.wp
                    have hr18 := build42 u u N2 (some ⟨bS, 0, none⟩) (some ⟨B, 0, none⟩) (some ⟨B + 1, 0, none⟩) (some ⟨bG, 0, none⟩) (some ⟨bO, 0, none⟩) (some ⟨B + 2, 0, none⟩) (some ⟨bQ, 0, none⟩) (some ⟨b1, 0, none⟩) (some ⟨b2, 0, none⟩) M M u u g g i i i i g g u u u u w9
                    have c1 : ∀ v, a.eval (.const v) = v := fun _ => rfl
                    simp only [execOp, List.map_toArray, List.map_cons, List.map_nil, e143, e145, e146, e147, e149, e150, e151, e153, e154, e156, e158, e160, c1, Sem.run_bind, hr18, Result.andThen_ok, Sem.run_pure, Oper.upon_value]
                    refine hK.out _ _ (fun _ => trivial) ?_
                    clear hK K
                    obtain ⟨A, hA⟩ : ∃ A, A = kArr (.int .i64 u) (.pointer (some ⟨bS, 0, none⟩)) (.slice (some ⟨B, 0, none⟩) M M) (.int .i64 u) (.int .i64 N2) (.slice (some ⟨B + 1, 0, none⟩) u u) (.slice (some ⟨bG, 0, none⟩) g g) (.slice (some ⟨bO, 0, none⟩) i i) (.slice (some ⟨B + 2, 0, none⟩) i i) (.slice (some ⟨bQ, 0, none⟩) g g) (.slice (some ⟨b1, 0, none⟩) u u) (.slice (some ⟨b2, 0, none⟩) u u) := ⟨_, rfl⟩
                    rw [← hA]
                    have HA : Hid _ := hA
                    obtain ⟨a2, ha2⟩ : ∃ a2, a2 = a.put (some 161) (.agg A) := ⟨_, rfl⟩
                    rw [← ha2]
                    have t161 : a2.tmps[161]? = some (.agg A) := by rw [ha2]; show (a.tmps.setIfInBounds 161 _)[161]? = _; rw [Array.getElem?_setIfInBounds_self_of_lt (by rw [z0]; decide)]
                    have z2 : a2.tmps.size = 163 := by rw [ha2]; show (a.tmps.setIfInBounds 161 _).size = _; rw [Array.size_setIfInBounds]; exact z0
                    have d2 : a2.defers = [] := by rw [ha2]; exact dd
                    have e161 := eval_tmp t161
                    clear ha2 hA
                    refine wpL_one (i := 19) (by kernel_rfl) rfl (fun K hK => ?_)
                    simp only [List.getElem_toArray, List.getElem_cons_zero, List.getElem_cons_succ]
                    rw [if_pos (by rfl)]
                    unfold Oper.wp
                    simp only [execOp, e161]
                    go_simp
                    refine hK.out _ _ (fun _ => trivial) ?_
                    clear hK K
                    obtain ⟨a3, ha3⟩ : ∃ a3 : Act, a3 = { tmps := a2.tmps.setIfInBounds 162 (.pointer (some ⟨w9.heap.size, 0, none⟩)), defers := [] } := ⟨_, rfl⟩
                    have t162 : a3.tmps[162]? = some (.pointer (some ⟨w9.heap.size, 0, none⟩)) := by rw [ha3]; show (a2.tmps.setIfInBounds 162 _)[162]? = _; rw [Array.getElem?_setIfInBounds_self_of_lt (by rw [z2]; decide)]
                    have z3 : a3.tmps.size = 163 := by rw [ha3]; show (a2.tmps.setIfInBounds 162 _).size = _; rw [Array.size_setIfInBounds]; exact z2
                    have d3 : a3.defers = [] := by rw [ha3]
                    have hgoal : { tmps := a2.tmps.setIfInBounds 162 (.pointer (some ⟨w9.heap.size, 0, none⟩)), defers := a2.defers } = a3 := by rw [ha3, d2]
                    try rw [hgoal]
                    try rw [← ha3]
                    have e162 := eval_tmp t162
                    clear ha3 hgoal
                    refine wpL_one (i := 20) (by kernel_rfl) rfl (fun K hK => ?_)
                    simp only [List.getElem_toArray, List.getElem_cons_zero, List.getElem_cons_succ]
                    rw [if_pos (by rfl)]
                    unfold Oper.wp
                    simp only [execOp, e162]
                    go_simp
                    refine hK.out _ _ (fun h => absurd rfl h) ?_
                    clear hK K
                    refine wpL_done (by kernel_rfl) ?_ _
                    go_wp2
                    refine bodyPost_ret (results_tmp rfl _ _ _) (by first | exact d3 | rfl) ?_
                    have hsw := HSZW.out
                    have hS9 := (Below.heap_alloc w9 (.cells A 42) bS (Array.getElem?_eq_some_iff.1 hS).1).trans hS
                    have hO9 := (Below.heap_alloc w9 (.cells A 42) bO (Array.getElem?_eq_some_iff.1 hO).1).trans hO
                    have lS' : bG + 1 ≤ bS := by rw [← hsw]; exact lS
                    have lO' : bG + 1 ≤ bO := by rw [← hsw]; exact lO
                    have hbs : wt.heap.size ≤ w9.heap.size := hb9.size
                    refine ⟨w9.heap.size, ?_, HFIN.out _ bS bO w9.heap.size _ _ _ (by rw [heap_alloc_new, HA.out]) hS9 hO9 (by omega) (by omega) (Array.getElem?_eq_some_iff.1 hS).1 (Array.getElem?_eq_some_iff.1 hO).1 ?_ (fun k hk => ?_) hb9.os hb9.tape hb9.output (by rw [World.size_alloc]; omega)⟩
                    · skip
                      simp [z3]
                    · intro e
                      rw [e, hO] at hS
                      simp only [Option.some.injEq, Obj.cells.injEq] at hS
                      exact absurd hS.2.1 (by decide)
                    · exact (Below.heap_alloc _ _ _ (by omega)).trans (hb9.block k (by show k < wt.heap.size; omega))
end Go.Proofs.YbulkcoguDoor
