import Derived.Test.YbulkcoguRefusal
import Derived.Test.YbulkcoguLast
import Derived.Laws.CopyOwn
import Derived.Deep.AppendLies
import Derived.Test.YbulkcoguReadsWalk
namespace Go.Proofs.Ybulkcogu
open Go.RowKit Go.Deep
set_option linter.unusedVariables false
set_option linter.unusedSimpArgs false

/-- The slice of references at a reads as rf. -/
def AtR (w : World) (a : Option Addr) (rf : List (Int × Bool)) : Prop := ∀ k, k < rf.length → ∃ b o, a = some ⟨b, o, none⟩ ∧ w.cell? ⟨b, o + k * 2, none⟩ = some (.int .u8 (rf.getD k (0, false)).1) ∧ w.cell? ⟨b, o + k * 2 + 1, none⟩ = some (.bool (rf.getD k (0, false)).2)

theorem Yba.info47 : (Yba.prog.info? 47).map (fun i => (i.zero, i.size, i.bytes)) = some (some (.slice none 0 0), 1, 24) := by kernel_rfl
theorem Yba.info22 : (Yba.prog.info? 22).map (fun i => (i.zero, i.size, i.bytes)) = some (some (.slice none 0 0), 1, 24) := by kernel_rfl
theorem Yba.info49 : (Yba.prog.info? 49).map (fun i => (i.zero, i.size, i.bytes)) = some (some (.agg #[.int .i64 0, .bool false]), 2, 16) := by kernel_rfl
theorem Yba.size3 : (Yba.prog.info? 3).map (·.size) = some 1 := by kernel_rfl

def rsOf (K : Nat) (rf : List (Int × Bool)) : List (Nat × Bool) := rf.map fun r => ((r.1 % (K : Int)).toNat, r.2)
def flatR (rs : List (Nat × Bool)) : List Value := rs.flatMap fun r => [Value.int .i64 r.1, Value.bool r.2]

theorem flatR_snoc (rs : List (Nat × Bool)) (k : Nat) (h : k < rs.length) : flatR (rs.take (k + 1)) = flatR (rs.take k) ++ [Value.int .i64 (rs.getD k (0, false)).1, Value.bool (rs.getD k (0, false)).2] := by
  have e : rs.getD k (0, false) = rs[k] := by simp [List.getD, h]
  rw [e]
  unfold flatR
  rw [List.take_succ_eq_append_getElem h, List.flatMap_append]
  rfl

theorem flatR_at (rs : List (Nat × Bool)) : ∀ k, k < rs.length → (flatR rs)[k * 2]? = some (.int .i64 (rs.getD k (0, false)).1) ∧ (flatR rs)[k * 2 + 1]? = some (.bool (rs.getD k (0, false)).2) := by
  induction rs with
  | nil => intro k hk; simp at hk
  | cons f fs ih =>
    intro k hk
    cases k with
    | zero => simp [flatR]
    | succ k =>
      obtain ⟨h1, h2⟩ := ih k (by simp at hk; omega)
      have e1 : (k + 1) * 2 = k * 2 + 1 + 1 := by omega
      rw [e1]
      simp [flatR] at h1 h2 ⊢
      exact ⟨h1, h2⟩

def ofRow (n i : Nat) (v : Value) : Array Value := (madeCells #[Value.slice none 0 0] n).setIfInBounds i v

/-- n values: the first k are f's, the others z. -/
def fillV (f : Nat → Value) (z : Value) (n k : Nat) : Array Value := ((List.range n).map fun x => if x < k then f x else z).toArray

theorem fillV_size (f : Nat → Value) (z : Value) (n k : Nat) : (fillV f z n k).size = n := by simp [fillV]

theorem fillV_at (f : Nat → Value) (z : Value) (n k i : Nat) (h : i < n) : (fillV f z n k)[i]? = some (if i < k then f i else z) := by
  simp [fillV, h]

theorem fillV_step (f : Nat → Value) (z : Value) (n k : Nat) : (fillV f z n k).setIfInBounds k (f k) = fillV f z n (k + 1) := by
  apply Array.ext_getElem?
  intro i
  rw [Array.getElem?_setIfInBounds]
  by_cases hi : i < n
  · rw [fillV_at _ _ _ _ _ hi, fillV_size]
    by_cases hk : k = i
    · subst hk; simp [hi, fillV_at]
    · simp [hk, fillV_at, hi]
      by_cases h1 : i < k
      · simp [h1, show i < k + 1 by omega]
      · simp [h1, show ¬ i < k + 1 by omega]
  · simp [fillV, hi]
    intro hk; omega

theorem madeCells_fillV (f : Nat → Value) (z : Value) (n : Nat) : madeCells #[z] n = fillV f z n 0 := by
  apply Array.ext_getElem?
  intro i
  by_cases hi : i < n
  · rw [made_at _ _ _ hi, fillV_at _ _ _ _ _ hi]; simp
  · simp [fillV, hi, madeCells]

def namedV (H x : Nat) : Value := .slice (some ⟨H + 1 + 1 + x, 0, none⟩) 3 3
def twoV (_ : Nat) : Value := .int .i64 2
def tripleV (i x : Nat) : Obj := .cells #[.int .i64 i, .int .i64 (1000 + x), .int .i64 (2000 + x)] 3 (0, 0)

def s7 (C P G L n : Nat) (v23 ofv unv nv tv : Value) : Array Value := ((((sCells C P G L n v23).setIfInBounds 19 ofv).setIfInBounds 18 unv).setIfInBounds 20 nv).setIfInBounds 21 tv

theorem seven {wr : World} {S : Nat} {c : Array Value} (ofv unv nv tv : Value) (hS : wr.heap[S]? = some (.cells c 37 (0, 0))) (W7 : World)
    (hW : W7 = (((wr.setCell ⟨S, 19, none⟩ ofv).setCell ⟨S, 18, none⟩ unv).setCell ⟨S, 20, none⟩ nv).setCell ⟨S, 21, none⟩ tv) :
    W7.heap[S]? = some (.cells ((((c.setIfInBounds 19 ofv).setIfInBounds 18 unv).setIfInBounds 20 nv).setIfInBounds 21 tv) 37 (0, 0)) ∧ (∀ k, k ≠ S → W7.heap[k]? = wr.heap[k]?) ∧ W7.heap.size = wr.heap.size ∧ Below S wr W7 := by
  subst hW
  have hk : ∀ k, k ≠ S → ((((wr.setCell ⟨S, 19, none⟩ ofv).setCell ⟨S, 18, none⟩ unv).setCell ⟨S, 20, none⟩ nv).setCell ⟨S, 21, none⟩ tv).heap[k]? = wr.heap[k]? := fun k hk => by
    rw [Below.heap_setCell _ _ _ _ hk, Below.heap_setCell _ _ _ _ hk, Below.heap_setCell _ _ _ _ hk, Below.heap_setCell _ _ _ _ hk]
  exact ⟨heap_set_same (heap_set_same (heap_set_same (heap_set_same hS))), hk, by simp [World.setCell], ⟨rfl, rfl, rfl, by simp [World.setCell], fun k hk' => hk k (by omega)⟩⟩

theorem s7_old (C P G L n : Nat) (v23 ofv unv nv tv : Value) (j : Nat) (h1 : j ≠ 18) (h2 : j ≠ 19) (h3 : j ≠ 20) (h4 : j ≠ 21) : (s7 C P G L n v23 ofv unv nv tv)[j]? = (sCells C P G L n v23)[j]? := by
  unfold s7
  rw [Array.getElem?_setIfInBounds_ne (Ne.symm h4), Array.getElem?_setIfInBounds_ne (Ne.symm h3), Array.getElem?_setIfInBounds_ne (Ne.symm h1), Array.getElem?_setIfInBounds_ne (Ne.symm h2)]

theorem s7_new (C P G L n : Nat) (v23 ofv unv nv tv : Value) : (s7 C P G L n v23 ofv unv nv tv)[18]? = some unv ∧ (s7 C P G L n v23 ofv unv nv tv)[19]? = some ofv ∧ (s7 C P G L n v23 ofv unv nv tv)[20]? = some nv ∧ (s7 C P G L n v23 ofv unv nv tv)[21]? = some tv := by
  simp [s7, sCells]

theorem ref_setup {w W W7 : World} {n i R Wb F : Nat} {ofv unv nv tv : Value} (hin : i < n) (hn2 : n ≤ 8) (hL : Laid w n R Wb (.pointer (some ⟨w.heap.size + 1 + 1 + 1 + 1, 2, none⟩)) (madeCells #[.bool false] n) (madeCells #[.slice none 0 0] n) W)
    (hG : W.heap[w.heap.size + 1 + 1 + 1 + 1 + 1]? = some (.cells (fill idf n n) 3 (0, 0))) (hLo : W.heap[w.heap.size + 1 + 1 + 1 + 1 + 1 + 1]? = some (.cells (fill (locf n) n n) 3 (0, 0)))
    (hF : w.heap.size + 7 ≤ F) (hk : ∀ k, k < F → k ≠ w.heap.size + 1 + 1 + 1 + 1 → W7.heap[k]? = W.heap[k]?)
    (hS : W7.heap[w.heap.size + 1 + 1 + 1 + 1]? = some (.cells (s7 (w.heap.size + 1 + 1) (w.heap.size + 1 + 1 + 1) (w.heap.size + 1 + 1 + 1 + 1 + 1) (w.heap.size + 1 + 1 + 1 + 1 + 1 + 1) n (.pointer (some ⟨w.heap.size + 1 + 1 + 1 + 1, 2, none⟩)) ofv unv nv tv) 37 (0, 0))) :
    Setup (w.heap.size + 1 + 1 + 1 + 1) (w.heap.size + 1 + 1) R Wb (w.heap.size + 1 + 1 + 1) (w.heap.size + 1 + 1 + 1 + 1 + 1) (w.heap.size + 1 + 1 + 1 + 1 + 1 + 1) n i 0 [] [] none 0 W7 := by
  have h2 := hL.two
  have cR := hL.reads
  have cW := hL.writes
  have cC := hL.cons
  have cP := hL.placed
  rw [← hk R (by omega) (by omega)] at cR
  rw [← hk Wb (by omega) (by omega)] at cW
  rw [← hk (w.heap.size + 1 + 1) (by omega) (by omega)] at cC
  rw [← hk (w.heap.size + 1 + 1 + 1) (by omega) (by omega)] at cP
  rw [← hk (w.heap.size + 1 + 1 + 1 + 1 + 1) (by omega) (by omega)] at hG
  rw [← hk (w.heap.size + 1 + 1 + 1 + 1 + 1 + 1) (by omega) (by omega)] at hLo
  have hold : ∀ j u, j ≠ 18 → j ≠ 19 → j ≠ 20 → j ≠ 21 → (sCells (w.heap.size + 1 + 1) (w.heap.size + 1 + 1 + 1) (w.heap.size + 1 + 1 + 1 + 1 + 1) (w.heap.size + 1 + 1 + 1 + 1 + 1 + 1) n (.pointer (some ⟨w.heap.size + 1 + 1 + 1 + 1, 2, none⟩)))[j]? = some u → W7.cell? ⟨w.heap.size + 1 + 1 + 1 + 1, j, none⟩ = some u :=
    fun j u h1 h2 h3 h4 hu => cell_in hS (by rw [s7_old _ _ _ _ _ _ _ _ _ _ j h1 h2 h3 h4]; exact hu)
  refine ⟨hold 0 _ (by omega) (by omega) (by omega) (by omega) rfl, hold 2 _ (by omega) (by omega) (by omega) (by omega) rfl, hold 3 _ (by omega) (by omega) (by omega) (by omega) rfl, free_in hS, hold 4 _ (by omega) (by omega) (by omega) (by omega) rfl, hold 8 _ (by omega) (by omega) (by omega) (by omega) rfl, hold 10 _ (by omega) (by omega) (by omega) (by omega) rfl, hold 12 _ (by omega) (by omega) (by omega) (by omega) rfl, cell_in cC rfl, cell_in cC rfl, cell_in cR (made_at _ _ _ hin), cell_in cW (made_at _ _ _ hin), fun k hk => by simp at hk, fun x hx => cell_in cP (made_at _ _ _ hx), fun k hk => by simp at hk,
    hin, by omega, by simp, by omega, by omega, ?_, fun x hx => cell_in hLo ?_, by omega, by omega, by omega, by omega, by omega, by omega⟩
  · refine cell_in hG ?_
    rw [fill_at _ _ _ _ hin, if_pos hin]; rfl
  · rw [fill_at _ _ _ _ hx, if_pos hx]; rfl

theorem ref_refs {w W7 : World} {n i K F U C P G L : Nat} {us : List Int} {rs : List (Nat × Bool)} {fa : Option Addr} {fc : Nat} {nv tv : Value} (hin : i < n) (hn2 : n ≤ 8) (hK : K ≤ 1024) (hl : rs.length ≤ 1024) (hus : us.length = K)
    (hrK : ∀ k, k < rs.length → (rs.getD k (0, false)).1 < K) (hU : w.heap.size + 7 ≤ U) (hF : F = U + 1)
    (hS : W7.heap[w.heap.size + 1 + 1 + 1 + 1]? = some (.cells (s7 C P G L n (.pointer (some ⟨w.heap.size + 1 + 1 + 1 + 1, 2, none⟩)) (.slice (some ⟨F, 0, none⟩) n n) (.slice (some ⟨U, 0, none⟩) K K) nv tv) 37 (0, 0)))
    (hFb : W7.heap[F]? = some (.cells (ofRow n i (.slice fa rs.length fc)) 47 (0, 0))) (hUb : W7.heap[U]? = some (.cells (us.map (Value.int .i64)).toArray 3 (0, 0)))
    (hown : W7.ownsRow (F + 1) 49 2 (.slice fa rs.length fc) rs.length (flatR rs)) :
    Refs (w.heap.size + 1 + 1 + 1 + 1) F i n K 0 us rs fa (some ⟨U, 0, none⟩) fc K W7 := by
  have hold : ∀ j u, j ≠ 18 → j ≠ 19 → j ≠ 20 → j ≠ 21 → (sCells C P G L n (.pointer (some ⟨w.heap.size + 1 + 1 + 1 + 1, 2, none⟩)))[j]? = some u → W7.cell? ⟨w.heap.size + 1 + 1 + 1 + 1, j, none⟩ = some u :=
    fun j u h1 h2 h3 h4 hu => cell_in hS (by rw [s7_old _ _ _ _ _ _ _ _ _ _ j h1 h2 h3 h4]; exact hu)
  have hnew := s7_new C P G L n (.pointer (some ⟨w.heap.size + 1 + 1 + 1 + 1, 2, none⟩)) (.slice (some ⟨F, 0, none⟩) n n) (.slice (some ⟨U, 0, none⟩) K K) nv tv
  refine ⟨hold 2 _ (by omega) (by omega) (by omega) (by omega) rfl, hold 3 _ (by omega) (by omega) (by omega) (by omega) rfl, free_in hS, cell_in hS hnew.1, cell_in hS hnew.2.1, hold 23 _ (by omega) (by omega) (by omega) (by omega) rfl, cell_in hFb (by simp [ofRow, madeCells, hin]), ?_, fun x hx => ⟨U, rfl, by omega, cell_in hUb (by rw [List.getElem?_toArray, map_getD _ _ (by omega)])⟩, hrK, hin, by omega, by omega, by omega, by omega, by omega, by omega⟩
  intro k hk
  rcases hown.2 with ⟨hv, h0⟩ | ⟨g, cap, cur, hv, hg, _⟩
  · omega
  · simp only [Value.slice.injEq] at hv
    obtain ⟨rfl, _, rfl⟩ := hv
    obtain ⟨f1, f2⟩ := flatR_at _ k hk
    have c1 := hown.cells (g := g) rfl _ _ f1
    have c2 := hown.cells (g := g) rfl _ _ f2
    rw [Addr.add_lit, Nat.zero_add] at c1 c2
    exact ⟨g, rfl, by omega, c1, c2⟩

theorem first_hit (us : List Int) (rs : List (Nat × Bool)) : ∃ m, m ≤ rs.length ∧ (∀ j, j < m → hits us (rs.getD j (0, false)) = false) ∧ (m < rs.length → hits us (rs.getD m (0, false)) = true) := by
  induction rs with
  | nil => exact ⟨0, Nat.le_refl _, fun j h => by omega, fun h => by simp at h⟩
  | cons f fs ih =>
    cases hg : hits us f with
    | true => exact ⟨0, Nat.zero_le _, fun j h => by omega, fun _ => by simpa using hg⟩
    | false =>
      obtain ⟨m, h1, h2, h3⟩ := ih
      refine ⟨m + 1, by simp; omega, fun j hj => ?_, fun h => ?_⟩
      · cases j with
        | zero => simpa using hg
        | succ j => have := h2 j (by omega); simpa using this
      · have := h3 (by simp at h; omega); simpa using this

set_option maxRecDepth 100000 in
set_option maxHeartbeats 2000000 in
theorem refusal_some (nn iv : Int) (a2 a3 : Option Addr) (c2 c3 : Nat) (us : List Int) (rf : List (Int × Bool)) (w : World) (hl0 : us.length ≤ 1024) (hl1 : rf.length ≤ 1024) (hK0 : 0 < us.length)
    (h2 : At w a2 us) (h3 : AtR w a3 rf) (hz : ∀ k, k < rf.length → 0 ≤ (rf.getD k (0, false)).1 ∧ (rf.getD k (0, false)).1 ≤ 255) (hn0 : 0 ≤ nn) (hn1 : nn ≤ 255) (hi0 : 0 ≤ iv) (hi1 : iv ≤ 255) :
    Calls Yba.prog 4 #[.int .u8 nn, .int .u8 iv, .slice a2 us.length c2, .slice a3 rf.length c3] w fun e w' => e = .returned (.bool true) ∧ Below w.heap.size w w' := by
  obtain ⟨n, hnI⟩ : ∃ n : Nat, nn % 8 + 1 = (n : Int) := ⟨(nn % 8 + 1).toNat, by omega⟩
  have hnb : 1 ≤ n ∧ n ≤ 8 := by omega
  obtain ⟨hnlo, hnhi⟩ := hnb
  obtain ⟨i, hmod⟩ : ∃ i : Nat, iv % (n : Int) = i := ⟨(iv % n).toNat, by have := Int.emod_nonneg iv (show (n : Int) ≠ 0 by omega); omega⟩
  have hin : i < n := by have := Int.emod_lt_of_pos iv (show (0 : Int) < n by omega); omega
  have H2 : Hid (At w a2 us) := h2
  have H3 : Hid (AtR w a3 rf) := h3
  have HZ : Hid (∀ k, k < rf.length → 0 ≤ (rf.getD k (0, false)).1 ∧ (rf.getD k (0, false)).1 ≤ 255) := hz
  clear h2 h3 hz
  obtain ⟨K, hK⟩ : ∃ K, us.length = K := ⟨_, rfl⟩
  have HK : Hid (us.length = K) := hK
  rw [hK] at hl0 hK0 ⊢
  clear hK
  have hd1 : decide (1024 < (K : Int)) = false := by simp; omega
  have hd2 : decide (1024 < (rf.length : Int)) = false := by simp; omega
  have hd3 : decide (0 < (K : Int)) = true := by simp; omega
  have m22 := fun w => run_make_row' (P := Yba.prog) 22 3 (.int .i64 0) 8 Yba.underlying22 Yba.info3 rfl .i64 .i64 K (by omega) (by omega) w
  have m32 := fun w => run_make_row' (P := Yba.prog) 32 47 (.slice none 0 0) 24 Yba.underlying32 Yba.info47 rfl .i64 .i64 n (by omega) (by omega) w
  have m31 := fun w => run_make_row' (P := Yba.prog) 31 22 (.slice none 0 0) 24 Yba.underlying31 Yba.info22 rfl .i64 .i64 K (by omega) (by omega) w
  go_enter Yba.func4, Yba.ntmps4
  go_wp2_with fail
  refine (plain_any n w hnlo (by omega)).mono ?_
  rintro e w1 ⟨rfl, R, Wb, hL, hG, hLo⟩
  have HL : Hid (Laid w n R Wb (.pointer (some ⟨w.heap.size + 1 + 1 + 1 + 1, 2, none⟩)) (madeCells #[.bool false] n) (madeCells #[.slice none 0 0] n) w1) := hL
  have HG : Hid (w1.heap[w.heap.size + 1 + 1 + 1 + 1 + 1]? = some (.cells (fill idf n n) 3 (0, 0))) := hG
  have HLo : Hid (w1.heap[w.heap.size + 1 + 1 + 1 + 1 + 1 + 1]? = some (.cells (fill (locf n) n n) 3 (0, 0))) := hLo
  clear hL hG hLo
  obtain ⟨uvs, huv⟩ : ∃ uvs : List Value, uvs = us.map (Value.int .i64) := ⟨_, rfl⟩
  have HUV : Hid (uvs = us.map (Value.int .i64)) := huv
  have HUL : Hid (uvs.length = K) := by show _ = _; rw [huv]; simpa using HK.out
  clear huv
  have HPR : Hid ((w1.alloc (.cells (madeCells #[.int .i64 0] K) 3)).heap[w1.heap.size]? = some (.cells ((madeCells #[.int .i64 0] K).toList).toArray 3 (0, 0))) := by
    show _ = _; simpa using heap_alloc_new w1 (.cells (madeCells #[.int .i64 0] K) 3)
  have HSRC : Hid (∀ j v, uvs[j]? = some v → ∃ ad, a2 = some ad ∧ (w1.alloc (.cells (madeCells #[.int .i64 0] K) 3)).cell? (ad.add j) = some v) := by
    intro j v hv
    rw [HUV.out] at hv
    have hj : j < us.length := by have := (List.getElem?_eq_some_iff.1 hv).1; simpa using this
    obtain ⟨b, o, hb, hc⟩ := H2.out j hj
    refine ⟨_, hb, ?_⟩
    have hbl := World.block_lt_of_cell? _ _ hc
    rw [map_getD _ _ hj] at hv
    have hs := HL.out.below.size
    have hbl' : b < w1.heap.size := Nat.lt_of_lt_of_le hbl hs
    rw [Addr.add_lit, World.cell?_of_block (w := w1) (Below.heap_alloc _ _ _ hbl'), HL.out.below.cell (p := ⟨b, o + j, none⟩) hbl, hc, hv]
  go_wp2_with (refine wpList_copy_but (by rfl) (.tmp 48) (.tmp 49) 22 22 (by rfl) 3 Yba.underlying22 Yba.size3 w1.heap.size a2 K K K c2 (by rfl) (by rfl) _ 3 HPR.out uvs (by rw [HUL.out]; exact (Nat.min_self K).symm) HSRC.out (by rw [HUL.out]; simp [madeCells]) (by rw [HUV.out]; exact ints_oneCell _ _) ?_; intro w2 HP2 hB2)
  clear m22 m32
  have hU7 := HL.out.size
  have hF1 : w2.heap.size = w1.heap.size + 1 := by rw [hB2.size]; simp
  have HW3 : Hid (∀ k, k < w2.heap.size → (w2.alloc (.cells (madeCells #[.slice none 0 0] n) 47)).heap[k]? = w2.heap[k]?) := fun k hk => Below.heap_alloc _ _ _ hk
  have HF3 : Hid ((w2.alloc (.cells (madeCells #[.slice none 0 0] n) 47)).heap[w2.heap.size]? = some (.cells (ofRow n i (.slice none 0 0)) 47 (0, 0))) := by
    show _ = _
    rw [show ofRow n i (.slice none 0 0) = madeCells #[.slice none 0 0] n from set_self _ _ _ (made_at _ _ _ hin)]
    exact heap_alloc_new _ _
  have HS3 : Hid ((w2.alloc (.cells (madeCells #[.slice none 0 0] n) 47)).heap.size = w2.heap.size + 1) := by show _ = _; simp
  have HU3 : Hid ((w2.alloc (.cells (madeCells #[.slice none 0 0] n) 47)).heap[w1.heap.size]? = some (.cells uvs.toArray 3 (0, 0))) := by
    show _ = _
    rw [HW3.out _ (by omega), HP2.out]
    have e : splice (madeCells #[Value.int .i64 0] K).toList 0 uvs = uvs := by
      have : (madeCells #[Value.int .i64 0] K).toList.length = K := by simp [madeCells]
      simp [splice, HUL.out, List.drop_eq_nil_of_le (Nat.le_of_eq this)]
    rw [e]
  have hk7 : ∀ k, k < w.heap.size + 7 → (w2.alloc (.cells (madeCells #[.slice none 0 0] n) 47)).heap[k]? = w1.heap[k]? := fun k hk => by
    rw [HW3.out k (by omega), hB2.other k (by omega), Below.heap_alloc _ _ _ (by omega)]
  have HL3 : Hid (Laid w n R Wb (.pointer (some ⟨w.heap.size + 1 + 1 + 1 + 1, 2, none⟩)) (madeCells #[.bool false] n) (madeCells #[.slice none 0 0] n) (w2.alloc (.cells (madeCells #[.slice none 0 0] n) 47))) :=
    HL.out.grown (by rw [HS3.out]; omega) hB2.os hB2.tape hB2.output hk7
  have HG3 : Hid ((w2.alloc (.cells (madeCells #[.slice none 0 0] n) 47)).heap[w.heap.size + 1 + 1 + 1 + 1 + 1]? = some (.cells (fill idf n n) 3 (0, 0))) := by show _ = _; rw [hk7 _ (by omega)]; exact HG.out
  have HLo3 : Hid ((w2.alloc (.cells (madeCells #[.slice none 0 0] n) 47)).heap[w.heap.size + 1 + 1 + 1 + 1 + 1 + 1]? = some (.cells (fill (locf n) n n) 3 (0, 0))) := by show _ = _; rw [hk7 _ (by omega)]; exact HLo.out
  clear HL HG HLo HPR HSRC HP2 hB2 hk7 HW3
  generalize (w2.alloc (.cells (madeCells #[.slice none 0 0] n) 47)) = W3 at *
  obtain ⟨F, hF⟩ : ∃ F, F = w2.heap.size := ⟨_, rfl⟩
  obtain ⟨U, hU⟩ : ∃ U, U = w1.heap.size := ⟨_, rfl⟩
  rw [← hF] at HF3 HS3 hF1 ⊢
  rw [← hU] at HU3 hF1 hU7 ⊢
  have HFU : Hid (F = U + 1) := hF1
  clear hF hU hF1 m31
  obtain ⟨i0, hi, hz0, hz1, hz2⟩ := info_parts Yba.info49
  have HI : Hid (Yba.prog.info? 49 = some i0 ∧ i0.zero = some (.agg #[.int .i64 0, .bool false]) ∧ i0.size = 2 ∧ i0.bytes = 16) := ⟨hi, hz0, hz1, hz2⟩
  clear hi hz0 hz1 hz2
  obtain ⟨rs, hrs⟩ : ∃ rs, rs = rsOf K rf := ⟨_, rfl⟩
  have HRS : Hid (rs = rsOf K rf) := hrs
  have HRL : Hid (rs.length = rf.length) := by rw [hrs]; simp [rsOf, Hid]
  clear hrs
  go_loopw [57] (fun q wr => ∃ k : Nat, k ≤ rf.length ∧ q = .int .i64 k ∧ ∃ fa fc, wr.heap[F]? = some (.cells (ofRow n i (.slice fa k fc)) 47 (0, 0)) ∧
      wr.ownsRow (F + 1) 49 2 (.slice fa k fc) k (flatR (rs.take k)) ∧ Below F W3 wr)
    (fun q _ => rf.length - (intOf q).toNat)
  case atStart => exact ⟨0, Nat.zero_le _, rfl, _, _, HF3.out, World.ownsRow_nil _ _ _ _, Below.refl _ _⟩
  case round =>
    obtain ⟨k, hk, rfl, fa, fc, hF, hown, hbel⟩ := hrel
    have hsF : F + 1 ≤ wr.heap.size := by have := hbel.size; rw [HS3.out] at this; exact this
    by_cases hlt : k < rf.length
    · obtain ⟨b, o, hb, hc0, hc1⟩ := H3.out k hlt
      subst hb
      obtain ⟨⟨z, tb⟩, hzk⟩ : ∃ z, rf.getD k (0, false) = z := ⟨_, rfl⟩
      have hzb := HZ.out k hlt
      rw [hzk] at hzb hc0 hc1
      obtain ⟨hzb0, hzb1⟩ := hzb
      have hblt := World.block_lt_of_cell? _ _ hc0
      have hbF : b < F := Nat.lt_of_lt_of_le hblt (by have := HFU.out; omega)
      have cz : wr.cell? ⟨b, o + k * 2, none⟩ = some (.int .u8 z) := by rw [hbel.cell (p := ⟨b, o + k * 2, none⟩) hbF, HL3.out.below.cell (p := ⟨b, o + k * 2, none⟩) hblt, hc0]
      have ct : wr.cell? ⟨b, o + k * 2 + 1, none⟩ = some (.bool tb) := by rw [hbel.cell (p := ⟨b, o + k * 2 + 1, none⟩) hbF, HL3.out.below.cell (p := ⟨b, o + k * 2 + 1, none⟩) hblt, hc1]
      obtain ⟨x, hx⟩ : ∃ x : Nat, z % (K : Int) = x := ⟨(z % (K : Int)).toNat, by have := Int.emod_nonneg z (show (K : Int) ≠ 0 by omega); omega⟩
      have HRK : Hid (rs.getD k (0, false) = (x, tb)) := by
        show _ = _
        have e : rs.getD k (0, false) = ((z % (K : Int)).toNat, tb) := by
          rw [HRS.out]; simp only [rsOf, List.getD, List.getElem?_map]
          have : rf[k]? = some (z, tb) := by have h := hzk; simp [List.getD, hlt] at h; simp [hlt, h]
          rw [this]; rfl
        rw [e, hx]; simp
      clear hc0 hc1 hzk
      have q2 : wr.cell? ⟨F, i, none⟩ = some (.slice fa k fc) := cell_in hF (by simp [ofRow, madeCells, hin])
      have f2 : wr.frozen? ⟨F, i, none⟩ = false := free_in hF
      have HF : Hid (wr.heap[F]? = some (.cells (ofRow n i (.slice fa k fc)) 47 (0, 0))) := hF
      have HOWN : Hid (wr.ownsRow (F + 1) 49 2 (.slice fa k fc) k (flatR (rs.take k))) := hown
      have HBEL : Hid (Below F W3 wr) := hbel
      clear hF hown hbel
      have hi0' : (0 : Int) ≤ (i : Int) := by omega
      have hi1' : (i : Int) < (n : Int) := by omega
      have e2 : ¬ (K = 0) := by omega
      have e3 : IntKind.i64.wrap z = z := by rw [IntKind.wrap_i64]; omega
      have e4 : z.tmod (K : Int) = x := by rw [Int.tmod_eq_emod_of_nonneg hzb0, hx]
      have e5 : IntKind.i64.wrap (x : Int) = x := by
        have := Int.emod_lt_of_pos z (show (0 : Int) < K by omega)
        rw [IntKind.wrap_i64]; omega
      have HX : Hid (z % (K : Int) = x) := hx
      clear hx
      go_wp2_with fail
      have HYb : Hid (Below wr.heap.size wr (wr.alloc (.cells #[.int .u8 z, .bool tb] 46))) := (Below.refl _ _).alloc (Nat.le_refl _) _
      have HYs : Hid ((wr.alloc (.cells #[.int .u8 z, .bool tb] 46)).heap.size = wr.heap.size + 1) := by show _ = _; simp
      have y0 : (wr.alloc (.cells #[.int .u8 z, .bool tb] 46)).cell? ⟨wr.heap.size, 0, none⟩ = some (.int .u8 z) := cell_in (heap_alloc_new wr _) rfl
      have y1 : (wr.alloc (.cells #[.int .u8 z, .bool tb] 46)).cell? ⟨wr.heap.size, 1, none⟩ = some (.bool tb) := cell_in (heap_alloc_new wr _) rfl
      have y2 : (wr.alloc (.cells #[.int .u8 z, .bool tb] 46)).cell? ⟨F, i, none⟩ = some (.slice fa k fc) := by rw [HYb.out.cell (p := ⟨F, i, none⟩) hsF]; exact q2
      have yf : (wr.alloc (.cells #[.int .u8 z, .bool tb] 46)).frozen? ⟨F, i, none⟩ = false := by rw [HYb.out.frozen (p := ⟨F, i, none⟩) hsF]; exact f2
      have HYo : Hid ((wr.alloc (.cells #[.int .u8 z, .bool tb] 46)).ownsRow (F + 1) 49 2 (.slice fa k fc) k (flatR (rs.take k))) := HOWN.out.alloc _
      generalize (wr.alloc (.cells #[.int .u8 z, .bool tb] 46)) = wy at *
      clear q2 f2 cz ct
      refine wp_region_L (fun w' : World => w'.cell? ⟨F, i, none⟩ = some (.slice fa k fc) ∧ w'.cell? ⟨wr.heap.size, 0, none⟩ = some (.int .u8 z) ∧ w'.cell? ⟨wr.heap.size, 1, none⟩ = some (.bool tb)) 17 18 (by kernel_rfl) (by kernel_rfl) ?_
      have HS : Hid ((fun w' : World => w'.cell? ⟨F, i, none⟩ = some (.slice fa k fc) ∧ w'.cell? ⟨wr.heap.size, 0, none⟩ = some (.int .u8 z) ∧ w'.cell? ⟨wr.heap.size, 1, none⟩ = some (.bool tb)) wy.drew) := ⟨y2, y0, y1⟩
      refine wpL_take (i := 0) (v := ?_) rfl (by kernel_rfl) (by kernel_rfl) (by kernel_rfl) (by kernel_rfl) (fun _ _ _ h => h) (by rfl) ?_ HS.out ?_
      rotate_left
      · (intro wS hwS; (try dsimp only at hwS); go_simp; try with_reducible rfl)
      simp only [Act.put, List.getElem_toArray, List.getElem_cons_zero, List.getElem_cons_succ, List.setIfInBounds_toArray, List.set_cons_zero, List.set_cons_succ]
      refine wpL_take (i := 1) (v := ?_) rfl (by kernel_rfl) (by kernel_rfl) (by kernel_rfl) (by kernel_rfl) (fun _ _ _ h => h) (by rfl) ?_ HS.out ?_
      rotate_left
      · (intro wS hwS; (try dsimp only at hwS); go_simp; try with_reducible rfl)
      simp only [Act.put, List.getElem_toArray, List.getElem_cons_zero, List.getElem_cons_succ, List.setIfInBounds_toArray, List.set_cons_zero, List.set_cons_succ]
      refine wpL_take (i := 2) (v := ?_) rfl (by kernel_rfl) (by kernel_rfl) (by kernel_rfl) (by kernel_rfl) (fun _ _ _ h => h) (by rfl) ?_ HS.out ?_
      rotate_left
      · (intro wS hwS; (try dsimp only at hwS); go_simp; try with_reducible rfl)
      simp only [Act.put, List.getElem_toArray, List.getElem_cons_zero, List.getElem_cons_succ, List.setIfInBounds_toArray, List.set_cons_zero, List.set_cons_succ]
      refine wpL_take (i := 3) (v := ?_) rfl (by kernel_rfl) (by kernel_rfl) (by kernel_rfl) (by kernel_rfl) (fun _ _ _ h => h) (by rfl) ?_ HS.out ?_
      rotate_left
      · (intro wS hwS; (try dsimp only at hwS); go_simp; try with_reducible rfl)
      simp only [Act.put, List.getElem_toArray, List.getElem_cons_zero, List.getElem_cons_succ, List.setIfInBounds_toArray, List.set_cons_zero, List.set_cons_succ]
      refine wpL_take (i := 4) (v := ?_) rfl (by kernel_rfl) (by kernel_rfl) (by kernel_rfl) (by kernel_rfl) (fun _ _ _ h => h) (by rfl) ?_ HS.out ?_
      rotate_left
      · (intro wS hwS; (try dsimp only at hwS); go_simp; try with_reducible rfl)
      simp only [Act.put, List.getElem_toArray, List.getElem_cons_zero, List.getElem_cons_succ, List.setIfInBounds_toArray, List.set_cons_zero, List.set_cons_succ]
      refine wpL_take (i := 5) (v := ?_) rfl (by kernel_rfl) (by kernel_rfl) (by kernel_rfl) (by kernel_rfl) (fun _ _ _ h => h) (by rfl) ?_ HS.out ?_
      rotate_left
      · (intro wS hwS; (try dsimp only at hwS); go_simp; try with_reducible rfl)
      simp only [Act.put, List.getElem_toArray, List.getElem_cons_zero, List.getElem_cons_succ, List.setIfInBounds_toArray, List.set_cons_zero, List.set_cons_succ]
      refine wpL_take (i := 6) (v := ?_) rfl (by kernel_rfl) (by kernel_rfl) (by kernel_rfl) (by kernel_rfl) (fun _ _ _ h => h) (by rfl) ?_ HS.out ?_
      rotate_left
      · (intro wS hwS; (try dsimp only at hwS); go_simp; try with_reducible rfl)
      simp only [Act.put, List.getElem_toArray, List.getElem_cons_zero, List.getElem_cons_succ, List.setIfInBounds_toArray, List.set_cons_zero, List.set_cons_succ]
      refine wpL_take (i := 7) (v := ?_) rfl (by kernel_rfl) (by kernel_rfl) (by kernel_rfl) (by kernel_rfl) (fun _ _ _ h => h) (by rfl) ?_ HS.out ?_
      rotate_left
      · (intro wS hwS; (try dsimp only at hwS); go_simp; try with_reducible rfl)
      simp only [Act.put, List.getElem_toArray, List.getElem_cons_zero, List.getElem_cons_succ, List.setIfInBounds_toArray, List.set_cons_zero, List.set_cons_succ]
      refine wpL_take (i := 8) (v := ?_) rfl (by kernel_rfl) (by kernel_rfl) (by kernel_rfl) (by kernel_rfl) (fun _ _ _ h => h) (by rfl) ?_ HS.out ?_
      rotate_left
      · (intro wS hwS; (try dsimp only at hwS); go_simp; try with_reducible rfl)
      simp only [Act.put, List.getElem_toArray, List.getElem_cons_zero, List.getElem_cons_succ, List.setIfInBounds_toArray, List.set_cons_zero, List.set_cons_succ]
      refine wpL_take (i := 9) (v := ?_) rfl (by kernel_rfl) (by kernel_rfl) (by kernel_rfl) (by kernel_rfl) (fun _ _ _ h => h) (by rfl) ?_ HS.out ?_
      rotate_left
      · (intro wS hwS; (try dsimp only at hwS); go_simp; try with_reducible rfl)
      simp only [Act.put, List.getElem_toArray, List.getElem_cons_zero, List.getElem_cons_succ, List.setIfInBounds_toArray, List.set_cons_zero, List.set_cons_succ]
      refine wpL_take (i := 10) (v := ?_) rfl (by kernel_rfl) (by kernel_rfl) (by kernel_rfl) (by kernel_rfl) (fun _ _ _ h => h) (by rfl) ?_ HS.out ?_
      rotate_left
      · (intro wS hwS; (try dsimp only at hwS); go_simp; try with_reducible rfl)
      simp only [Act.put, List.getElem_toArray, List.getElem_cons_zero, List.getElem_cons_succ, List.setIfInBounds_toArray, List.set_cons_zero, List.set_cons_succ]
      refine wpL_take (i := 11) (v := ?_) rfl (by kernel_rfl) (by kernel_rfl) (by kernel_rfl) (by kernel_rfl) (fun _ _ _ h => h) (by rfl) ?_ HS.out ?_
      rotate_left
      · (intro wS hwS; (try dsimp only at hwS); go_simp; try with_reducible rfl)
      simp only [Act.put, List.getElem_toArray, List.getElem_cons_zero, List.getElem_cons_succ, List.setIfInBounds_toArray, List.set_cons_zero, List.set_cons_succ]
      refine wpL_take (i := 12) (v := ?_) rfl (by kernel_rfl) (by kernel_rfl) (by kernel_rfl) (by kernel_rfl) (fun _ _ _ h => h) (by rfl) ?_ HS.out ?_
      rotate_left
      · (intro wS hwS; (try dsimp only at hwS); go_simp; try with_reducible rfl)
      simp only [Act.put, List.getElem_toArray, List.getElem_cons_zero, List.getElem_cons_succ, List.setIfInBounds_toArray, List.set_cons_zero, List.set_cons_succ]
      refine wpL_take (i := 13) (v := ?_) rfl (by kernel_rfl) (by kernel_rfl) (by kernel_rfl) (by kernel_rfl) (fun _ _ _ h => h) (by rfl) ?_ HS.out ?_
      rotate_left
      · (intro wS hwS; (try dsimp only at hwS); go_simp; try with_reducible rfl)
      simp only [Act.put, List.getElem_toArray, List.getElem_cons_zero, List.getElem_cons_succ, List.setIfInBounds_toArray, List.set_cons_zero, List.set_cons_succ]
      have HS1 : Hid ((fun w' : World => w'.cell? ⟨F, i, none⟩ = some (.slice fa k fc) ∧ w'.cell? ⟨wr.heap.size, 0, none⟩ = some (.int .u8 z) ∧ w'.cell? ⟨wr.heap.size, 1, none⟩ = some (.bool tb)) ((wy.alloc (.cells #[.int .i64 x, .bool tb] 49)).drew)) := by
        refine ⟨?_, ?_, ?_⟩
        · rw [← y2]; exact World.cell?_of_block (w := wy) (Below.heap_alloc _ _ _ (World.block_lt_of_cell? _ _ y2))
        · rw [← y0]; exact World.cell?_of_block (w := wy) (Below.heap_alloc _ _ _ (World.block_lt_of_cell? _ _ y0))
        · rw [← y1]; exact World.cell?_of_block (w := wy) (Below.heap_alloc _ _ _ (World.block_lt_of_cell? _ _ y1))
      refine wpL_one (i := 14) (by kernel_rfl) rfl (fun K' hK => ?_)
      simp only [List.getElem_toArray, List.getElem_cons_zero, List.getElem_cons_succ]
      go_simp
      refine hK.out _ _ (fun _ => HS1.out) ?_
      clear hK K'
      try simp only [Act.put, List.getElem_toArray, List.getElem_cons_zero, List.getElem_cons_succ, List.setIfInBounds_toArray, List.set_cons_zero, List.set_cons_succ]
      refine wpL_one (i := 15) (by kernel_rfl) rfl (fun K' hK => ?_)
      refine step_append_lies _ (by rfl) _ _ _ (by rfl) (F + 1) 49 i0 _ 2 16 Yba.underlying47 HI.out.1 HI.out.2.1 HI.out.2.2.1 HI.out.2.2.2 rfl (by omega) (.slice fa k fc) k _ (by rfl) ((HYo.out.alloc _).drew) ⟨wy.heap.size, 0, none⟩ 1 1 [.int .i64 x, .bool tb] (by rfl) (by rfl) (World.news_of_block (cs := #[.int .i64 x, .bool tb]) (t := 49) (fr := (0, 0)) (heap_alloc_new wy _)) (by simp [Value.oneCell']) (by omega) (by unfold maxLen; omega) (by omega) (by have := HYs.out; simp; omega) (wy.heap.size + 1) (by simp) ?_
      intro gg cap w3 hown1 hgrow hat hlt3
      have hne : ∀ b, b ≤ F → some b ≠ (Value.slice fa k fc).ownBlock := fun b hb e => by have := (HOWN.out.lt b e.symm).1; omega
      have hne2 : some wr.heap.size ≠ (Value.slice fa k fc).ownBlock := fun e => by have := (HOWN.out.lt _ e.symm).2; omega
      have r2 : w3.cell? ⟨F, i, none⟩ = some (.slice fa k fc) := hgrow.cell HS1.out.1 (hne F (Nat.le_refl _))
      have r0 : w3.cell? ⟨wr.heap.size, 0, none⟩ = some (.int .u8 z) := hgrow.cell HS1.out.2.1 hne2
      have r1 : w3.cell? ⟨wr.heap.size, 1, none⟩ = some (.bool tb) := hgrow.cell HS1.out.2.2 hne2
      have HS2 : Hid ((fun w' : World => w'.cell? ⟨F, i, none⟩ = some (.slice fa k fc) ∧ w'.cell? ⟨wr.heap.size, 0, none⟩ = some (.int .u8 z) ∧ w'.cell? ⟨wr.heap.size, 1, none⟩ = some (.bool tb)) w3) := ⟨r2, r0, r1⟩
      have hFy : F < wy.heap.size := World.block_lt_of_cell? _ _ y2
      have f3 : w3.frozen? ⟨F, i, none⟩ = false := by
        rw [World.frozen?_of_block (w := (wy.alloc (.cells #[.int .i64 x, .bool tb] 49)).drew) (hgrow.block F (by simp; omega) (hne F (Nat.le_refl _))), ← yf]
        exact World.frozen?_of_block (w := wy) (Below.heap_alloc _ _ _ hFy)
      refine hK.out _ _ (fun _ => HS2.out) ?_
      clear hK K'
      try simp only [Act.put, List.getElem_toArray, List.getElem_cons_zero, List.getElem_cons_succ, List.setIfInBounds_toArray, List.set_cons_zero, List.set_cons_succ]
      refine wpL_take (i := 16) (v := ?_) rfl (by kernel_rfl) (by kernel_rfl) (by kernel_rfl) (by kernel_rfl) (fun _ _ _ h => h) (by rfl) ?_ HS2.out ?_
      rotate_left
      · (intro wS hwS; (try dsimp only at hwS); go_simp; try with_reducible rfl)
      simp only [Act.put, List.getElem_toArray, List.getElem_cons_zero, List.getElem_cons_succ, List.setIfInBounds_toArray, List.set_cons_zero, List.set_cons_succ]
      refine wpL_one (i := 17) (by kernel_rfl) rfl (fun K' hK => ?_)
      simp only [List.getElem_toArray, List.getElem_cons_zero, List.getElem_cons_succ]
      go_simp
      refine hK.out _ _ (fun h => absurd rfl h) ?_
      clear hK K'
      refine wpL_done (by kernel_rfl) ?_ _
      go_wp2
      go_roundw
      case rel =>
        have hkF : ∀ j, j ≤ F → w3.heap[j]? = wr.heap[j]? := fun j hj => by
          rw [hgrow.block j (by simp; omega) (hne j hj)]
          rw [show ((wy.alloc (.cells #[.int .i64 x, .bool tb] 49)).drew).heap[j]? = wy.heap[j]? from Below.heap_alloc _ _ _ (by omega)]
          exact HYb.out.block j (by omega)
        refine ⟨k + 1, by omega, by go_num, some ⟨gg, 0, none⟩, cap, ?_, ?_, ?_⟩
        · have e : (ofRow n i (.slice fa k fc)).setIfInBounds i (.slice (some ⟨gg, 0, none⟩) (k + 1) cap) = ofRow n i (.slice (some ⟨gg, 0, none⟩) (k + 1) cap) := set_set _ _ _ _
          rw [← e]
          exact heap_set_same (by rw [hkF F (Nat.le_refl _)]; exact HF.out)
        · rw [flatR_snoc rs k (by rw [HRL.out]; exact hlt), HRK.out]
          exact ownsRow_setCell_below hown1 (by dsimp only; omega) _
        · refine Below.setCell (HBEL.out.trans ?_) (by dsimp only; omega) _
          exact ⟨hgrow.os.trans HYb.out.os, hgrow.tape.trans HYb.out.tape, hgrow.output.trans HYb.out.output, by have h1 := hgrow.size; have h2 := HYb.out.size; simp at h1; omega, fun j hj => hkF j (by omega)⟩
      case measure => simp [intOf]; omega
    · obtain rfl : k = rf.length := by omega
      have HF : Hid (wr.heap[F]? = some (.cells (ofRow n i (.slice fa rf.length fc)) 47 (0, 0))) := hF
      have HOWN : Hid (wr.ownsRow (F + 1) 49 2 (.slice fa rf.length fc) rf.length (flatR rs)) := by
        have := hown
        rw [show rs.take rf.length = rs from List.take_of_length_le (Nat.le_of_eq HRL.out)] at this
        exact this
      have HBEL : Hid (Below F W3 wr) := hbel
      clear hF hown hbel hlt hk HF3 HS3 HI
      obtain ⟨W4, hW4⟩ : ∃ W4, W4 = wr := ⟨_, rfl⟩
      subst hW4
      have m22 := fun w => run_make_row' (P := Yba.prog) 22 3 (.int .i64 0) 8 Yba.underlying22 Yba.info3 rfl .i64 .i64 K (by omega) (by omega) w
      have m31 := fun w => run_make_row' (P := Yba.prog) 31 22 (.slice none 0 0) 24 Yba.underlying31 Yba.info22 rfl .i64 .i64 K (by omega) (by omega) w
      go_wp2_with fail
      clear m22 m31
      obtain ⟨H, hH⟩ : ∃ H, H = W4.heap.size := ⟨_, rfl⟩
      have HH5 : Hid (((W4.alloc (.cells (madeCells #[.slice none 0 0] K) 22)).alloc (.cells (madeCells #[.int .i64 0] K) 3)).heap.size = H + 1 + 1) := by show _ = _; rw [hH]; simp
      have HN5 : Hid (((W4.alloc (.cells (madeCells #[.slice none 0 0] K) 22)).alloc (.cells (madeCells #[.int .i64 0] K) 3)).heap[H]? = some (.cells (fillV (namedV H) (.slice none 0 0) K 0) 22 (0, 0))) := by
        show _ = _
        rw [← madeCells_fillV, hH, Below.heap_alloc _ _ _ (by simp)]
        exact heap_alloc_new _ _
      have HT5 : Hid (((W4.alloc (.cells (madeCells #[.slice none 0 0] K) 22)).alloc (.cells (madeCells #[.int .i64 0] K) 3)).heap[H + 1]? = some (.cells (fillV twoV (.int .i64 0) K 0) 3 (0, 0))) := by
        show _ = _
        rw [← madeCells_fillV, hH]
        have := heap_alloc_new (W4.alloc (.cells (madeCells #[.slice none 0 0] K) 22)) (.cells (madeCells #[.int .i64 0] K) 3)
        simpa using this
      have HB5 : Hid (Below H W4 ((W4.alloc (.cells (madeCells #[.slice none 0 0] K) 22)).alloc (.cells (madeCells #[.int .i64 0] K) 3))) := by
        rw [hH]
        exact ((Below.refl _ _).alloc (Nat.le_refl _) _).alloc (by simp) _
      rw [← hH]
      have HHF : Hid (F + 1 ≤ H) := by rw [hH]; exact hsF
      have HH4 : Hid (W4.heap.size = H) := hH.symm
      clear hH hsF
      generalize ((W4.alloc (.cells (madeCells #[.slice none 0 0] K) 22)).alloc (.cells (madeCells #[.int .i64 0] K) 3)) = W5 at *
      have hd3 : decide (0 < (K : Int)) = true := by simp; omega
      go_loopw [19] (fun q wr => ∃ k : Nat, k ≤ K ∧ q = .int .i64 k ∧ wr.heap.size = H + 1 + 1 + k ∧ wr.heap[H]? = some (.cells (fillV (namedV H) (.slice none 0 0) K k) 22 (0, 0)) ∧ wr.heap[H + 1]? = some (.cells (fillV twoV (.int .i64 0) K k) 3 (0, 0)) ∧
          (∀ j, j < k → wr.heap[H + 1 + 1 + j]? = some (tripleV i j)) ∧ Below H W4 wr)
        (fun q _ => K - (intOf q).toNat)
      case atStart => exact ⟨0, Nat.zero_le _, rfl, HH5.out, HN5.out, HT5.out, fun j hj => by omega, HB5.out⟩
      case round =>
        obtain ⟨k, hk, rfl, hsz, hN, hT, hJ, hbel⟩ := hrel
        by_cases hlt : k < K
        · have HSZ : Hid (wr.heap.size = H + 1 + 1 + k) := hsz
          have HN : Hid (wr.heap[H]? = some (.cells (fillV (namedV H) (.slice none 0 0) K k) 22 (0, 0))) := hN
          have HT : Hid (wr.heap[H + 1]? = some (.cells (fillV twoV (.int .i64 0) K k) 3 (0, 0))) := hT
          have HJ : Hid (∀ j, j < k → wr.heap[H + 1 + 1 + j]? = some (tripleV i j)) := hJ
          have HB : Hid (Below H W4 wr) := hbel
          have cN : ∀ o, (wr.alloc o).cell? ⟨H, k, none⟩ = some (.slice none 0 0) := fun o => cell_in (by rw [Below.heap_alloc _ _ _ (by omega)]; exact hN) (by rw [fillV_at _ _ _ _ _ hlt]; simp)
          have fN : ∀ o, (wr.alloc o).frozen? ⟨H, k, none⟩ = false := fun o => free_in (by rw [Below.heap_alloc _ _ _ (by omega)]; exact hN)
          have cT : ∀ o, (wr.alloc o).cell? ⟨H + 1, k, none⟩ = some (.int .i64 0) := fun o => cell_in (by rw [Below.heap_alloc _ _ _ (by omega)]; exact hT) (by rw [fillV_at _ _ _ _ _ hlt]; simp)
          have fT : ∀ o, (wr.alloc o).frozen? ⟨H + 1, k, none⟩ = false := fun o => free_in (by rw [Below.heap_alloc _ _ _ (by omega)]; exact hT)
          clear hsz hN hT hJ hbel
          go_wp2
          go_roundw
          case rel =>
            have hsz := HSZ.out
            refine ⟨k + 1, by omega, by go_num, ?_, ?_, ?_, ?_, ?_⟩
            · simp [World.setCell]; omega
            · rw [Below.heap_setCell _ _ _ _ (by dsimp only; omega)]
              rw [heap_set_same (c := fillV (namedV H) (.slice none 0 0) K k) (e := 22) (fz := (0, 0)) (by rw [Below.heap_alloc _ _ _ (by omega)]; exact HN.out), ← fillV_step, hsz]
              rfl
            · rw [heap_set_same (c := fillV twoV (.int .i64 0) K k) (e := 3) (fz := (0, 0)) (by rw [Below.heap_setCell _ _ _ _ (by dsimp only; omega), Below.heap_alloc _ _ _ (by omega)]; exact HT.out), ← fillV_step]
              rfl
            · intro j hj
              rw [Below.heap_setCell _ _ _ _ (by dsimp only; omega), Below.heap_setCell _ _ _ _ (by dsimp only; omega)]
              by_cases hjk : j = k
              · subst hjk
                rw [← hsz, heap_alloc_new]
                rfl
              · rw [Below.heap_alloc _ _ _ (by omega)]
                exact HJ.out j (by omega)
            · exact ((HB.out.alloc (by rw [hsz]; omega) _).setCell (Nat.le_refl _) _).setCell (by dsimp only; omega) _
          case measure => simp [intOf]; omega
        · obtain rfl : k = K := by omega
          have HSZ : Hid (wr.heap.size = H + 1 + 1 + k) := hsz
          have HHF' := HHF.out
          have HFU' := HFU.out
          have HB6 : Hid (Below F W3 wr) := HBEL.out.trans (hbel.mono (by omega))
          have hSb : wr.heap[w.heap.size + 1 + 1 + 1 + 1]? = some (.cells (sCells (w.heap.size + 1 + 1) (w.heap.size + 1 + 1 + 1) (w.heap.size + 1 + 1 + 1 + 1 + 1) (w.heap.size + 1 + 1 + 1 + 1 + 1 + 1) n (.pointer (some ⟨w.heap.size + 1 + 1 + 1 + 1, 2, none⟩))) 37 (0, 0)) := by
            rw [HB6.out.block _ (by omega)]; exact HL3.out.search
          have hFb : wr.heap[F]? = some (.cells (ofRow n i (.slice fa rf.length fc)) 47 (0, 0)) := by rw [hbel.block _ (by omega)]; exact HF.out
          have c18 : wr.cell? ⟨w.heap.size + 1 + 1 + 1 + 1, 18, none⟩ = some (.slice none 0 0) := cell_in hSb rfl
          have c19 : wr.cell? ⟨w.heap.size + 1 + 1 + 1 + 1, 19, none⟩ = some (.slice none 0 0) := cell_in hSb rfl
          have c20 : wr.cell? ⟨w.heap.size + 1 + 1 + 1 + 1, 20, none⟩ = some (.slice none 0 0) := cell_in hSb rfl
          have c21 : wr.cell? ⟨w.heap.size + 1 + 1 + 1 + 1, 21, none⟩ = some (.slice none 0 0) := cell_in hSb rfl
          have f18 : wr.frozen? ⟨w.heap.size + 1 + 1 + 1 + 1, 18, none⟩ = false := free_in hSb
          have f19 : wr.frozen? ⟨w.heap.size + 1 + 1 + 1 + 1, 19, none⟩ = false := free_in hSb
          have f20 : wr.frozen? ⟨w.heap.size + 1 + 1 + 1 + 1, 20, none⟩ = false := free_in hSb
          have f21 : wr.frozen? ⟨w.heap.size + 1 + 1 + 1 + 1, 21, none⟩ = false := free_in hSb
          have cF : wr.cell? ⟨F, i, none⟩ = some (.slice fa rf.length fc) := cell_in hFb (by simp [ofRow, madeCells, hin])
          have hSF : ¬ (w.heap.size + 1 + 1 + 1 + 1 = F) := by omega
          have HSb : Hid (wr.heap[w.heap.size + 1 + 1 + 1 + 1]? = some (.cells (sCells (w.heap.size + 1 + 1) (w.heap.size + 1 + 1 + 1) (w.heap.size + 1 + 1 + 1 + 1 + 1) (w.heap.size + 1 + 1 + 1 + 1 + 1 + 1) n (.pointer (some ⟨w.heap.size + 1 + 1 + 1 + 1, 2, none⟩))) 37 (0, 0))) := hSb
          have HFb : Hid (wr.heap[F]? = some (.cells (ofRow n i (.slice fa rf.length fc)) 47 (0, 0))) := hFb
          have HN : Hid (wr.heap[H]? = some (.cells (fillV (namedV H) (.slice none 0 0) k k) 22 (0, 0))) := hN
          have HT : Hid (wr.heap[H + 1]? = some (.cells (fillV twoV (.int .i64 0) k k) 3 (0, 0))) := hT
          have HJ : Hid (∀ j, j < k → wr.heap[H + 1 + 1 + j]? = some (tripleV i j)) := hJ
          have HBH : Hid (Below H W4 wr) := hbel
          have hi0' : (0 : Int) ≤ (i : Int) := by omega
          have hi1' : (i : Int) < (n : Int) := by omega
          clear hsz hN hT hJ hbel hSb hFb HH5 HN5 HT5 HB5 hlt hk HHF' HFU'
          go_wp2_with fail
          obtain ⟨W7, hW7⟩ : ∃ W7, W7 = (((wr.setCell ⟨w.heap.size + 1 + 1 + 1 + 1, 19, none⟩ (.slice (some ⟨F, 0, none⟩) n n)).setCell ⟨w.heap.size + 1 + 1 + 1 + 1, 18, none⟩ (.slice (some ⟨U, 0, none⟩) k k)).setCell ⟨w.heap.size + 1 + 1 + 1 + 1, 20, none⟩ (.slice (some ⟨H, 0, none⟩) k k)).setCell ⟨w.heap.size + 1 + 1 + 1 + 1, 21, none⟩ (.slice (some ⟨H + 1, 0, none⟩) k k) := ⟨_, rfl⟩
          obtain ⟨g7, k7, s7e, b7⟩ := seven _ _ _ _ HSb.out W7 hW7
          rw [← hW7]
          clear hW7 c18 c19 c20 c21 f18 f19 f20 f21 cF
          have hrl := HRL.out
          have hHF := HHF.out
          have hFU := HFU.out
          have U7 := ref_setup (F := F) hin hnhi HL3.out HG3.out HLo3.out (by omega) (fun j hj hne => by rw [k7 j hne]; exact HB6.out.block j hj) g7
          have hown7 : W7.ownsRow (F + 1) 49 2 (.slice fa rs.length fc) rs.length (flatR rs) := by
            rw [hrl]
            have ho := HOWN.out
            refine ⟨ho.1, ?_⟩
            rcases ho.2 with h | ⟨g, cap, cur, hv, hg, hh, rest⟩
            · exact Or.inl h
            · refine Or.inr ⟨g, cap, cur, hv, hg, ?_, rest⟩
              have hgH : g < H := by rw [← HH4.out]; exact (Array.getElem?_eq_some_iff.1 hh).1
              rw [k7 g (by omega), HBH.out.block g hgH]; exact hh
          have hrk : ∀ j, j < rs.length → (rs.getD j (0, false)).1 < k := fun j hj => by
            rw [hrl] at hj
            have e : rs.getD j (0, false) = (((rf.getD j (0, false)).1 % (k : Int)).toNat, (rf.getD j (0, false)).2) := by
              rw [HRS.out]; simp [rsOf, List.getD, hj]
            rw [e]
            have h1 := Int.emod_nonneg (rf.getD j (0, false)).1 (show (k : Int) ≠ 0 by omega)
            have h2 := Int.emod_lt_of_pos (rf.getD j (0, false)).1 (show (0 : Int) < k by omega)
            dsimp only
            omega
          have R7 : Refs (w.heap.size + 1 + 1 + 1 + 1) F i n k 0 us rs fa (some ⟨U, 0, none⟩) fc k W7 := ref_refs hin hnhi hl0 (by omega) HK.out hrk (by omega) hFU g7 (by rw [k7 F (by omega), hrl]; exact HFb.out) (by rw [k7 U (by omega), HB6.out.block U (by omega), ← HUV.out]; exact HU3.out) hown7
          obtain ⟨m, hm, hlow, hhit⟩ := first_hit us rs
          have HR7 : Hid (Refs (w.heap.size + 1 + 1 + 1 + 1) F i n k 0 us rs fa (some ⟨U, 0, none⟩) fc k W7) := R7
          have HU7 : Hid (Setup (w.heap.size + 1 + 1 + 1 + 1) (w.heap.size + 1 + 1) R Wb (w.heap.size + 1 + 1 + 1) (w.heap.size + 1 + 1 + 1 + 1 + 1) (w.heap.size + 1 + 1 + 1 + 1 + 1 + 1) n i 0 [] [] none 0 W7) := U7
          have HLOW : Hid (∀ j, j < m → hits us (rs.getD j (0, false)) = false) := hlow
          have HHIT : Hid (m < rs.length → hits us (rs.getD m (0, false)) = true) := hhit
          have HM : Hid (m ≤ rs.length) := hm
          have HG7 : Hid (W7.heap[w.heap.size + 1 + 1 + 1 + 1]? = some (.cells (s7 (w.heap.size + 1 + 1) (w.heap.size + 1 + 1 + 1) (w.heap.size + 1 + 1 + 1 + 1 + 1) (w.heap.size + 1 + 1 + 1 + 1 + 1 + 1) n (.pointer (some ⟨w.heap.size + 1 + 1 + 1 + 1, 2, none⟩)) (.slice (some ⟨F, 0, none⟩) n n) (.slice (some ⟨U, 0, none⟩) k k) (.slice (some ⟨H, 0, none⟩) k k) (.slice (some ⟨H + 1, 0, none⟩) k k)) 37 (0, 0))) := g7
          have HN7 : Hid (W7.heap[H]? = some (.cells (fillV (namedV H) (.slice none 0 0) k k) 22 (0, 0))) := by show _ = _; rw [k7 H (by omega)]; exact HN.out
          have HT7 : Hid (W7.heap[H + 1]? = some (.cells (fillV twoV (.int .i64 0) k k) 3 (0, 0))) := by show _ = _; rw [k7 (H + 1) (by omega)]; exact HT.out
          have HJ7 : Hid (∀ j, j < k → W7.heap[H + 1 + 1 + j]? = some (tripleV i j)) := fun j hj => by rw [k7 _ (by omega)]; exact HJ.out j hj
          have HB7 : Hid (Below w.heap.size w W7) := (HL3.out.below.trans (HB6.out.mono (by omega))).trans (b7.mono (by omega))
          have hml : m ≤ rf.length := by omega
          clear R7 U7 hlow hhit hm g7 k7 s7e b7 hown7 hrk hrl HSb HFb HN HT HJ HBH HB6 HOWN HF HBEL HU3 HL3 HG3 HLo3
          go_loopw [20, 125] (fun v q wr => ∃ j : Nat, j ≤ m ∧ q = .int .i64 j ∧ v = .int .i64 (-1) ∧ Below W7.heap.size W7 wr) (fun _ q _ => rf.length - (intOf q).toNat)
          case atStart => exact ⟨0, Nat.zero_le _, rfl, rfl, Below.refl _ _⟩
          case round =>
            obtain ⟨j, hj, rfl, rfl, hbel⟩ := hrel
            have HBQ : Hid (Below W7.heap.size W7 wr) := hbel
            have hRQ := HR7.out.tick ((Tick.refl HR7.out.h2).grow (World.block_lt_of_cell? _ _ HR7.out.h2) hbel) (by omega) (by omega)
            clear hbel
            have hrl := HRL.out
            by_cases hlt : j < rf.length
            · obtain ⟨b, hra, hbS, g0, g1⟩ := hRQ.hrs j (by omega)
              subst hra
              obtain ⟨⟨x, tie⟩, hr⟩ : ∃ r, rs.getD j (0, false) = r := ⟨_, rfl⟩
              rw [hr] at g0 g1
              have hxk := hRQ.hK j (by omega)
              rw [hr] at hxk
              obtain ⟨ub, hua, hubS, hcu⟩ := hRQ.hus x hxk
              obtain rfl : U = ub := by simpa using hua
              obtain ⟨u, hu⟩ : ∃ u, us.getD x 0 = u := ⟨_, rfl⟩
              rw [hu] at hcu
              have HH : Hid (hits us (rs.getD j (0, false)) = (tie && (u == 1))) := by show hits _ _ = _; rw [hr]; simp [hits, ← hu, List.getD]
              have HRX : Hid (rs.getD j (0, false) = (x, tie)) := hr
              have qua : ∀ ob, (wr.alloc ob).cell? ⟨U, x, none⟩ = some (.int .i64 u) := fun ob => by rw [World.cell?_of_block (w := wr) (Below.heap_alloc _ _ _ (World.block_lt_of_cell? _ _ hcu))]; exact hcu
              have hx0 : (0 : Int) ≤ (x : Int) := by omega
              have hxK : (x : Int) < (k : Int) := by omega
              have HRQ : Hid (Refs (w.heap.size + 1 + 1 + 1 + 1) F i n k 0 us rs (some ⟨b, 0, none⟩) (some ⟨U, 0, none⟩) fc k wr) := hRQ
              clear hRQ hr hu hua hcu
              have hend : Hid ((tie && (u == 1)) = false → j < m) := fun hf => by
                rcases Nat.lt_or_ge j m with h | h
                · exact h
                · have : j = m := by omega
                  subst this
                  have h1 := HHIT.out (by omega)
                  rw [HH.out, hf] at h1
                  cases h1
              have hstop : Hid ((tie && (u == 1)) = true → j = m) := fun hf => by
                rcases Nat.lt_or_ge j m with h | h
                · have h1 := HLOW.out j h
                  rw [HH.out, hf] at h1
                  cases h1
                · omega
              cases tie with
              | false =>
                go_wp2
                go_roundw
                case rel => exact ⟨j + 1, by have := hend.out rfl; omega, by go_num, rfl, HBQ.out.alloc HBQ.out.size _⟩
                case measure => simp [intOf]; omega
              | true =>
                cases hu1 : (u == 1) with
                | false =>
                  go_wp2
                  go_roundw
                  case rel => exact ⟨j + 1, by have := hend.out (by simp [hu1]); omega, by go_num, rfl, HBQ.out.alloc HBQ.out.size _⟩
                  case measure => simp [intOf]; omega
                | true =>
                  have hjm := hstop.out (by simp [hu1])
                  subst hjm
                  have hmm := @run_makeMap Yba.prog
                  go_wp2_with fail
                  clear hmm
                  have HB8 : Hid (Below wr.heap.size wr ((wr.alloc (.cells #[.int .i64 x, .bool true] 49)).alloc (.map #[] 0))) := ((Below.refl _ _).alloc (Nat.le_refl _) _).alloc (by simp) _
                  have HM8 : Hid (((wr.alloc (.cells #[.int .i64 x, .bool true] 49)).alloc (.map #[] 0)).heap[wr.heap.size + 1]? = some (.map #[] 0)) := by
                    have := heap_alloc_new (wr.alloc (.cells #[.int .i64 x, .bool true] 49)) (.map #[] 0)
                    simpa [Hid] using this
                  clear qua g0 g1
                  generalize ((wr.alloc (.cells #[.int .i64 x, .bool true] 49)).alloc (.map #[] 0)) = w8 at *
                  have HW8 : Hid (Below W7.heap.size W7 w8) := HBQ.out.trans (HB8.out.mono HBQ.out.size)
                  have HR8 : Hid (Refs (w.heap.size + 1 + 1 + 1 + 1) F i n k 0 us rs (some ⟨b, 0, none⟩) (some ⟨U, 0, none⟩) fc k w8) :=
                    HR7.out.tick ((Tick.refl HR7.out.h2).grow (World.block_lt_of_cell? _ _ HR7.out.h2) HW8.out) (by omega) (by omega)
                  have hkp : ∀ {bb oo : Nat} {uu : Value}, W7.cell? ⟨bb, oo, none⟩ = some uu → w8.cell? ⟨bb, oo, none⟩ = some uu := fun {bb oo uu} h => by
                    rw [HW8.out.cell (p := ⟨bb, oo, none⟩) (World.block_lt_of_cell? _ _ h)]; exact h
                  have hnew := s7_new (w.heap.size + 1 + 1) (w.heap.size + 1 + 1 + 1) (w.heap.size + 1 + 1 + 1 + 1 + 1) (w.heap.size + 1 + 1 + 1 + 1 + 1 + 1) n (.pointer (some ⟨w.heap.size + 1 + 1 + 1 + 1, 2, none⟩)) (.slice (some ⟨F, 0, none⟩) n n) (.slice (some ⟨U, 0, none⟩) k k) (.slice (some ⟨H, 0, none⟩) k k) (.slice (some ⟨H + 1, 0, none⟩) k k)
                  have t20 := hkp (cell_in HG7.out hnew.2.2.1)
                  have t21 := hkp (cell_in HG7.out hnew.2.2.2)
                  have tN : w8.cell? ⟨H, x, none⟩ = some (.slice (some ⟨H + 1 + 1 + x, 0, none⟩) 3 3) := hkp (cell_in HN7.out (by rw [fillV_at _ _ _ _ _ hxk, if_pos hxk]; rfl))
                  have tT : w8.cell? ⟨H + 1, x, none⟩ = some (.int .i64 2) := hkp (cell_in HT7.out (by rw [fillV_at _ _ _ _ _ hxk, if_pos hxk]; rfl))
                  have tJ : w8.heap[H + 1 + 1 + x]? = some (.cells #[.int .i64 i, .int .i64 (1000 + x), .int .i64 (2000 + x)] 3 (0, 0)) := by
                    rw [HW8.out.block _ (Array.getElem?_eq_some_iff.1 (HJ7.out x hxk)).1]; exact HJ7.out x hxk
                  have hSlt : w.heap.size + 1 + 1 + 1 + 1 < wr.heap.size := World.block_lt_of_cell? _ _ HRQ.out.h2
                  have hHF := HHF.out
                  have hFU := HFU.out
                  have hM8 := (Array.getElem?_eq_some_iff.1 HM8.out).1
                  refine (wait_three (w.heap.size + 1 + 1 + 1 + 1) i 0 x (.map (some (wr.heap.size + 1))) H k (H + 1) k (H + 1 + 1 + x) (1000 + x) (2000 + x) w8
                    (fun w1 hw1 => look_empty w1 _ i 0 (by rw [hw1.other _ hM8 (by omega)]; exact HM8.out))
                    (fun w1 hw1 => (ref_any _ F i n k (0 + 1) us rs _ _ fc k j w1 (HR8.out.tick hw1 (by omega) (by omega)) HM.out HLOW.out HHIT.out x (fun _ => by rw [HRX.out]) (fun h => absurd (by omega) h)).mono (fun e w' h => ⟨h.1, by obtain ⟨t', _, _, ht⟩ := h.2; exact ⟨t', hw1.trans ht⟩⟩))
                    HR8.out.h2 HR8.out.h3 HR8.out.f2 (by omega) (by omega) t20 t21 hxk hxk (by omega) (by omega) tN tT tJ (by omega) (by omega) (by omega) (by omega)).mono ?_
                  rintro e w9 ⟨ab, cv, rfl, hg2, hab, t9, hT9⟩
                  have HB9 : Hid (Below w.heap.size w w9) := (HB7.out.trans (HW8.out.mono HB7.out.size)).trans (hT9.below (by omega) (Nat.le_trans HB7.out.size HW8.out.size))
                  have HG9 : Hid (w9.cell? ⟨H + 1 + 1 + x, 2, none⟩ = some (.int .i64 (2000 + x))) := hg2
                  have HA9 : Hid (w9.cell? ⟨ab, 0, none⟩ = some (.int .i64 (1000 + x))) := hab
                  clear hg2 hab hT9 t20 t21 tN tT tJ hkp hnew
                  go_wp2_with fail
                  refine (ceq_at (H + 1 + 1 + x) 2 1 w9.heap.size 1 (2000 + x) _ ?_ ?_).mono ?_
                  · rw [World.cell?_of_block (w := w9) (Below.heap_alloc _ _ _ (World.block_lt_of_cell? _ _ HG9.out))]; exact HG9.out
                  · exact cell_in (heap_alloc_new w9 _) rfl
                  rintro e w10 ⟨rfl, n10, hw10⟩
                  have HB10 : Hid (Below w9.heap.size w9 w10) := by rw [hw10]; exact below_drewN ((Below.refl _ _).alloc (Nat.le_refl _) _) _
                  clear hw10
                  go_wp2_with fail
                  refine (ceq_at ab 0 cv w10.heap.size 1 (1000 + x) _ ?_ ?_).mono ?_
                  · have hl := World.block_lt_of_cell? _ _ HA9.out
                    rw [World.cell?_of_block (w := w10) (Below.heap_alloc _ _ _ (Nat.lt_of_lt_of_le hl HB10.out.size)), HB10.out.cell (p := ⟨ab, 0, none⟩) hl]; exact HA9.out
                  · exact cell_in (heap_alloc_new w10 _) rfl
                  rintro e w11 ⟨rfl, n11, hw11⟩
                  have HB11 : Hid (Below w.heap.size w w11) := by
                    rw [hw11]
                    have h1 := HB9.out.trans (HB10.out.mono HB9.out.size)
                    exact below_drewN (h1.alloc h1.size _) _
                  clear hw11
                  go_wp2
                  go_ret
                  exact ⟨rfl, HB11.out⟩
            · have hall : ∀ q, q < rs.length → hits us (rs.getD q (0, false)) = false := fun q hq => HLOW.out q (by omega)
              have HALL : Hid (∀ q, q < rs.length → hits us (rs.getD q (0, false)) = false) := hall
              clear hall hRQ
              have hnil := fun (w : World) (n c : Nat) (a : Option Addr) => Lib.run_eql_slice_nil (P := Yba.prog) w 22 3 a n c 0 0 Yba.underlying22
              have hmm := @run_makeMap Yba.prog
              go_wp2_with fail
              clear hmm
              have HB8 : Hid (Below wr.heap.size wr (wr.alloc (.map #[] 0))) := (Below.refl _ _).alloc (Nat.le_refl _) _
              have HM8 : Hid ((wr.alloc (.map #[] 0)).heap[wr.heap.size]? = some (.map #[] 0)) := heap_alloc_new wr (.map #[] 0)
              generalize (wr.alloc (.map #[] 0)) = w8 at *
              have HW8 : Hid (Below W7.heap.size W7 w8) := HBQ.out.trans (HB8.out.mono HBQ.out.size)
              have HR8 : Hid (Refs (w.heap.size + 1 + 1 + 1 + 1) F i n k 0 us rs fa (some ⟨U, 0, none⟩) fc k w8) :=
                HR7.out.tick ((Tick.refl HR7.out.h2).grow (World.block_lt_of_cell? _ _ HR7.out.h2) HW8.out) (by omega) (by omega)
              have HU8 := HU7.out.tick ((Tick.refl HU7.out.h2).grow (World.block_lt_of_cell? _ _ HU7.out.h2) HW8.out) (by omega) (by omega)
              have hSlt : w.heap.size + 1 + 1 + 1 + 1 < wr.heap.size := Nat.lt_of_lt_of_le (World.block_lt_of_cell? _ _ HR7.out.h2) HBQ.out.size
              have hM8 := (Array.getElem?_eq_some_iff.1 HM8.out).1
              refine (wait_miss _ _ _ _ _ _ _ n i 0 [] [] none 0 (.map (some wr.heap.size)) w8 (fun w1 hw1 => look_empty w1 _ i 0 (by rw [hw1.other _ hM8 (by omega)]; exact HM8.out))
                (fun w1 hw1 => (ref_any _ F i n k (0 + 1) us rs _ _ fc k rs.length w1 (HR8.out.tick hw1 (by omega) (by omega)) (Nat.le_refl _) HALL.out (fun h => absurd h (Nat.lt_irrefl _)) (-1) (fun h => absurd h (Nat.lt_irrefl _)) (fun _ => rfl)).mono (fun e w' h => ⟨h.1, by obtain ⟨t', g1, g2, ht⟩ := h.2; exact ⟨t', g1, by omega, hw1.trans ht⟩⟩))
                HU8 (fun q hq => by simp at hq)).mono ?_
              rintro e w9 ⟨rfl, t9, hT9⟩
              have HB9 : Hid (Below w.heap.size w w9) := (HB7.out.trans (HW8.out.mono HB7.out.size)).trans (hT9.below (by omega) (Nat.le_trans HB7.out.size HW8.out.size))
              clear hT9 HU8
              go_wp2
              go_ret
              exact ⟨rfl, HB9.out⟩

set_option maxRecDepth 100000 in
theorem refusal_long (nn iv : Int) (a2 a3 : Option Addr) (n2 n3 c2 c3 : Nat) (w : World) (hm0 : n2 ≤ maxLen) (hm1 : n3 ≤ maxLen) (h : 1024 < n2 ∨ 1024 < n3) :
    Calls Yba.prog 4 #[.int .u8 nn, .int .u8 iv, .slice a2 n2 c2, .slice a3 n3 c3] w fun e w' => e = .returned (.bool true) ∧ Below w.heap.size w w' := by
  unfold maxLen at hm0 hm1
  by_cases h1 : 1024 < n2
  · have hd1 : decide (1024 < (n2 : Int)) = true := by simp; omega
    clear h
    go_enter Yba.func4, Yba.ntmps4
    go_wp2
    go_ret
    exact ⟨rfl, Below.refl _ _⟩
  · have hd1 : decide (1024 < (n2 : Int)) = false := by simp; omega
    have hd2 : decide (1024 < (n3 : Int)) = true := by simp; omega
    clear h
    go_enter Yba.func4, Yba.ntmps4
    go_wp2
    go_ret
    exact ⟨rfl, Below.refl _ _⟩

set_option maxRecDepth 100000 in
set_option maxHeartbeats 2000000 in
theorem refusal_zero (nn iv : Int) (a2 a3 : Option Addr) (c2 c3 : Nat) (us : List Int) (rf : List (Int × Bool)) (w : World) (hl0 : us.length ≤ 1024) (hl1 : rf.length ≤ 1024) (hK0 : us.length = 0)
    (h2 : At w a2 us) (h3 : AtR w a3 rf) (hz : ∀ k, k < rf.length → 0 ≤ (rf.getD k (0, false)).1 ∧ (rf.getD k (0, false)).1 ≤ 255) (hn0 : 0 ≤ nn) (hn1 : nn ≤ 255) (hi0 : 0 ≤ iv) (hi1 : iv ≤ 255) :
    Calls Yba.prog 4 #[.int .u8 nn, .int .u8 iv, .slice a2 us.length c2, .slice a3 rf.length c3] w fun e w' => e = .returned (.bool true) ∧ Below w.heap.size w w' := by
  obtain ⟨n, hnI⟩ : ∃ n : Nat, nn % 8 + 1 = (n : Int) := ⟨(nn % 8 + 1).toNat, by omega⟩
  have hnb : 1 ≤ n ∧ n ≤ 8 := by omega
  obtain ⟨hnlo, hnhi⟩ := hnb
  obtain ⟨i, hmod⟩ : ∃ i : Nat, iv % (n : Int) = i := ⟨(iv % n).toNat, by have := Int.emod_nonneg iv (show (n : Int) ≠ 0 by omega); omega⟩
  have hin : i < n := by have := Int.emod_lt_of_pos iv (show (0 : Int) < n by omega); omega
  have H2 : Hid (At w a2 us) := h2
  have H3 : Hid (AtR w a3 rf) := h3
  have HZ : Hid (∀ k, k < rf.length → 0 ≤ (rf.getD k (0, false)).1 ∧ (rf.getD k (0, false)).1 ≤ 255) := hz
  clear h2 h3 hz
  obtain ⟨K, hK⟩ : ∃ K, us.length = K := ⟨_, rfl⟩
  have HK : Hid (us.length = K) := hK
  rw [hK] at hl0 hK0 ⊢
  have HK0 : Hid (K = 0) := hK0
  have hKle : K ≤ 0 := by omega
  clear hK
  have hd1 : decide (1024 < (K : Int)) = false := by simp; omega
  have hd2 : decide (1024 < (rf.length : Int)) = false := by simp; omega
  have hd3 : decide (0 < (K : Int)) = false := by simp; omega
  have m22 := fun w => run_make_row' (P := Yba.prog) 22 3 (.int .i64 0) 8 Yba.underlying22 Yba.info3 rfl .i64 .i64 K (by omega) (by omega) w
  have m32 := fun w => run_make_row' (P := Yba.prog) 32 47 (.slice none 0 0) 24 Yba.underlying32 Yba.info47 rfl .i64 .i64 n (by omega) (by omega) w
  have m31 := fun w => run_make_row' (P := Yba.prog) 31 22 (.slice none 0 0) 24 Yba.underlying31 Yba.info22 rfl .i64 .i64 K (by omega) (by omega) w
  clear hK0
  go_enter Yba.func4, Yba.ntmps4
  go_wp2_with fail
  refine (plain_any n w hnlo (by omega)).mono ?_
  rintro e w1 ⟨rfl, R, Wb, hL, hG, hLo⟩
  have HL : Hid (Laid w n R Wb (.pointer (some ⟨w.heap.size + 1 + 1 + 1 + 1, 2, none⟩)) (madeCells #[.bool false] n) (madeCells #[.slice none 0 0] n) w1) := hL
  have HG : Hid (w1.heap[w.heap.size + 1 + 1 + 1 + 1 + 1]? = some (.cells (fill idf n n) 3 (0, 0))) := hG
  have HLo : Hid (w1.heap[w.heap.size + 1 + 1 + 1 + 1 + 1 + 1]? = some (.cells (fill (locf n) n n) 3 (0, 0))) := hLo
  clear hL hG hLo
  obtain ⟨uvs, huv⟩ : ∃ uvs : List Value, uvs = us.map (Value.int .i64) := ⟨_, rfl⟩
  have HUV : Hid (uvs = us.map (Value.int .i64)) := huv
  have HUL : Hid (uvs.length = K) := by show _ = _; rw [huv]; simpa using HK.out
  clear huv
  have HPR : Hid ((w1.alloc (.cells (madeCells #[.int .i64 0] K) 3)).heap[w1.heap.size]? = some (.cells ((madeCells #[.int .i64 0] K).toList).toArray 3 (0, 0))) := by
    show _ = _; simpa using heap_alloc_new w1 (.cells (madeCells #[.int .i64 0] K) 3)
  have HSRC : Hid (∀ j v, uvs[j]? = some v → ∃ ad, a2 = some ad ∧ (w1.alloc (.cells (madeCells #[.int .i64 0] K) 3)).cell? (ad.add j) = some v) := by
    intro j v hv
    rw [HUV.out] at hv
    have hj : j < us.length := by have := (List.getElem?_eq_some_iff.1 hv).1; simpa using this
    obtain ⟨b, o, hb, hc⟩ := H2.out j hj
    refine ⟨_, hb, ?_⟩
    have hbl := World.block_lt_of_cell? _ _ hc
    rw [map_getD _ _ hj] at hv
    have hs := HL.out.below.size
    have hbl' : b < w1.heap.size := Nat.lt_of_lt_of_le hbl hs
    rw [Addr.add_lit, World.cell?_of_block (w := w1) (Below.heap_alloc _ _ _ hbl'), HL.out.below.cell (p := ⟨b, o + j, none⟩) hbl, hc, hv]
  go_wp2_with (refine wpList_copy_but (by rfl) (.tmp 48) (.tmp 49) 22 22 (by rfl) 3 Yba.underlying22 Yba.size3 w1.heap.size a2 K K K c2 (by rfl) (by rfl) _ 3 HPR.out uvs (by rw [HUL.out]; exact (Nat.min_self K).symm) HSRC.out (by rw [HUL.out]; simp [madeCells]) (by rw [HUV.out]; exact ints_oneCell _ _) ?_; intro w2 HP2 hB2)
  clear m22 m32 m31
  have hU7 := HL.out.size
  have hF1 : w2.heap.size = w1.heap.size + 1 := by rw [hB2.size]; simp
  have HW3 : Hid (Below w2.heap.size w2 (((w2.alloc (.cells (madeCells #[.slice none 0 0] n) 47)).alloc (.cells (madeCells #[.slice none 0 0] K) 22)).alloc (.cells (madeCells #[.int .i64 0] K) 3))) := (((Below.refl _ _).alloc (Nat.le_refl _) _).alloc (by simp) _).alloc (by simp; omega) _
  have HF3 : Hid ((((w2.alloc (.cells (madeCells #[.slice none 0 0] n) 47)).alloc (.cells (madeCells #[.slice none 0 0] K) 22)).alloc (.cells (madeCells #[.int .i64 0] K) 3)).heap[w2.heap.size]? = some (.cells (ofRow n i (.slice none 0 0)) 47 (0, 0))) := by
    show _ = _
    rw [show ofRow n i (.slice none 0 0) = madeCells #[.slice none 0 0] n from set_self _ _ _ (made_at _ _ _ hin), Below.heap_alloc _ _ _ (by simp; omega), Below.heap_alloc _ _ _ (by simp)]
    exact heap_alloc_new _ _
  obtain ⟨W6, hW6⟩ : ∃ W6, W6 = ((w2.alloc (.cells (madeCells #[.slice none 0 0] n) 47)).alloc (.cells (madeCells #[.slice none 0 0] K) 22)).alloc (.cells (madeCells #[.int .i64 0] K) 3) := ⟨_, rfl⟩
  rw [← hW6] at HW3 HF3 ⊢
  clear hW6
  have hk7 : ∀ k, k < w.heap.size + 7 → W6.heap[k]? = w1.heap[k]? := fun k hk => by
    rw [HW3.out.block k (by omega), hB2.other k (by omega), Below.heap_alloc _ _ _ (by omega)]
  have HL3 : Hid (Laid w n R Wb (.pointer (some ⟨w.heap.size + 1 + 1 + 1 + 1, 2, none⟩)) (madeCells #[.bool false] n) (madeCells #[.slice none 0 0] n) W6) :=
    HL.out.grown (by have := HW3.out.size; omega) (HW3.out.os.trans hB2.os) (HW3.out.tape.trans hB2.tape) (HW3.out.output.trans hB2.output) hk7
  have HG3 : Hid (W6.heap[w.heap.size + 1 + 1 + 1 + 1 + 1]? = some (.cells (fill idf n n) 3 (0, 0))) := by show _ = _; rw [hk7 _ (by omega)]; exact HG.out
  have HLo3 : Hid (W6.heap[w.heap.size + 1 + 1 + 1 + 1 + 1 + 1]? = some (.cells (fill (locf n) n n) 3 (0, 0))) := by show _ = _; rw [hk7 _ (by omega)]; exact HLo.out
  have HU3 : Hid (W6.heap[w1.heap.size]? = some (.cells (us.map (Value.int .i64)).toArray 3 (0, 0))) := by
    show _ = _
    rw [HW3.out.block _ (by omega), HP2.out]
    have e : splice (madeCells #[Value.int .i64 0] K).toList 0 uvs = uvs := by
      have : (madeCells #[Value.int .i64 0] K).toList.length = K := by simp [madeCells]
      simp [splice, HUL.out, List.drop_eq_nil_of_le (Nat.le_of_eq this)]
    rw [e, HUV.out]
  clear HL HG HLo HPR HSRC HP2 hB2 hk7 HW3
  refine wp_loop_rounds 1 ?_
  rw [rounds_succ]
  have hSb := HL3.out.search
  have c18 : W6.cell? ⟨w.heap.size + 1 + 1 + 1 + 1, 18, none⟩ = some (.slice none 0 0) := cell_in hSb rfl
  have c19 : W6.cell? ⟨w.heap.size + 1 + 1 + 1 + 1, 19, none⟩ = some (.slice none 0 0) := cell_in hSb rfl
  have c20 : W6.cell? ⟨w.heap.size + 1 + 1 + 1 + 1, 20, none⟩ = some (.slice none 0 0) := cell_in hSb rfl
  have c21 : W6.cell? ⟨w.heap.size + 1 + 1 + 1 + 1, 21, none⟩ = some (.slice none 0 0) := cell_in hSb rfl
  have f18 : W6.frozen? ⟨w.heap.size + 1 + 1 + 1 + 1, 18, none⟩ = false := free_in hSb
  have f19 : W6.frozen? ⟨w.heap.size + 1 + 1 + 1 + 1, 19, none⟩ = false := free_in hSb
  have f20 : W6.frozen? ⟨w.heap.size + 1 + 1 + 1 + 1, 20, none⟩ = false := free_in hSb
  have f21 : W6.frozen? ⟨w.heap.size + 1 + 1 + 1 + 1, 21, none⟩ = false := free_in hSb
  have cF : W6.cell? ⟨w2.heap.size, i, none⟩ = some (.slice none 0 0) := cell_in HF3.out (by simp [ofRow, madeCells, hin])
  have hSF : ¬ (w.heap.size + 1 + 1 + 1 + 1 = w2.heap.size) := by omega
  have hi0' : (0 : Int) ≤ (i : Int) := by omega
  have hi1' : (i : Int) < (n : Int) := by omega
  clear hSb
  have HF1 : Hid (w2.heap.size = w1.heap.size + 1) := hF1
  clear hF1
  go_wp2_with fail
  obtain ⟨W7, hW7⟩ : ∃ W7, W7 = (((W6.setCell ⟨w.heap.size + 1 + 1 + 1 + 1, 19, none⟩ (.slice (some ⟨w2.heap.size, 0, none⟩) n n)).setCell ⟨w.heap.size + 1 + 1 + 1 + 1, 18, none⟩ (.slice (some ⟨w1.heap.size, 0, none⟩) K K)).setCell ⟨w.heap.size + 1 + 1 + 1 + 1, 20, none⟩ (.slice (some ⟨w2.heap.size + 1, 0, none⟩) K K)).setCell ⟨w.heap.size + 1 + 1 + 1 + 1, 21, none⟩ (.slice (some ⟨w2.heap.size + 1 + 1, 0, none⟩) K K) := ⟨_, rfl⟩
  obtain ⟨g7, k7, s7e, b7⟩ := seven _ _ _ _ HL3.out.search W7 hW7
  rw [← hW7]
  clear hW7 c18 c19 c20 c21 f18 f19 f20 f21 cF
  have hFU := HF1.out
  have U7 := ref_setup (F := w2.heap.size) hin hnhi HL3.out HG3.out HLo3.out (by omega) (fun j hj hne => k7 j hne) g7
  have R7 : Refs (w.heap.size + 1 + 1 + 1 + 1) w2.heap.size i n K 0 us [] none (some ⟨w1.heap.size, 0, none⟩) 0 K W7 := ref_refs hin hnhi hl0 (by simp) HK.out (fun j hj => by simp at hj) (by omega) hFU g7 (by rw [k7 _ (by omega)]; exact HF3.out) (by rw [k7 _ (by omega)]; exact HU3.out) (World.ownsRow_nil _ _ _ _)
  have HR7 : Hid (Refs (w.heap.size + 1 + 1 + 1 + 1) w2.heap.size i n K 0 us [] none (some ⟨w1.heap.size, 0, none⟩) 0 K W7) := R7
  have HU7 : Hid (Setup (w.heap.size + 1 + 1 + 1 + 1) (w.heap.size + 1 + 1) R Wb (w.heap.size + 1 + 1 + 1) (w.heap.size + 1 + 1 + 1 + 1 + 1) (w.heap.size + 1 + 1 + 1 + 1 + 1 + 1) n i 0 [] [] none 0 W7) := U7
  have HB7 : Hid (Below w.heap.size w W7) := HL3.out.below.trans (b7.mono (by omega))
  clear R7 U7 g7 k7 s7e b7 HU3 HL3 HG3 HLo3 HF3
  refine wp_loop_rounds 1 ?_
  rw [rounds_succ]
  have hnil := fun (w : World) (n c : Nat) (a : Option Addr) => Lib.run_eql_slice_nil (P := Yba.prog) w 22 3 a n c 0 0 Yba.underlying22
  have hmm := @run_makeMap Yba.prog
  go_wp2_with fail
  clear hmm
  have HB8 : Hid (Below W7.heap.size W7 (W7.alloc (.map #[] 0))) := (Below.refl _ _).alloc (Nat.le_refl _) _
  have HM8 : Hid ((W7.alloc (.map #[] 0)).heap[W7.heap.size]? = some (.map #[] 0)) := heap_alloc_new W7 (.map #[] 0)
  generalize (W7.alloc (.map #[] 0)) = w8 at *
  have HR8 : Hid (Refs (w.heap.size + 1 + 1 + 1 + 1) w2.heap.size i n K 0 us [] none (some ⟨w1.heap.size, 0, none⟩) 0 K w8) :=
    HR7.out.tick ((Tick.refl HR7.out.h2).grow (World.block_lt_of_cell? _ _ HR7.out.h2) HB8.out) (by omega) (by omega)
  have HU8 := HU7.out.tick ((Tick.refl HU7.out.h2).grow (World.block_lt_of_cell? _ _ HU7.out.h2) HB8.out) (by omega) (by omega)
  have hSlt : w.heap.size + 1 + 1 + 1 + 1 < W7.heap.size := World.block_lt_of_cell? _ _ HR7.out.h2
  have hM8 := (Array.getElem?_eq_some_iff.1 HM8.out).1
  refine (wait_miss _ _ _ _ _ _ _ n i 0 [] [] none 0 (.map (some W7.heap.size)) w8 (fun w1 hw1 => look_empty w1 _ i 0 (by rw [hw1.other _ hM8 (by omega)]; exact HM8.out))
    (fun w1 hw1 => (ref_any _ _ i n K (0 + 1) us [] _ _ 0 K 0 w1 (HR8.out.tick hw1 (by omega) (by omega)) (Nat.le_refl _) (fun j hj => absurd hj (Nat.not_lt_zero _)) (fun h => absurd h (Nat.lt_irrefl _)) (-1) (fun h => absurd h (Nat.lt_irrefl _)) (fun _ => rfl)).mono (fun e w' h => ⟨h.1, by obtain ⟨t', g1, g2, ht⟩ := h.2; exact ⟨t', g1, by omega, hw1.trans ht⟩⟩))
    HU8 (fun q hq => by simp at hq)).mono ?_
  rintro e w9 ⟨rfl, t9, hT9⟩
  have HB9 : Hid (Below w.heap.size w w9) := (HB7.out.trans (HB8.out.mono HB7.out.size)).trans (hT9.below (by omega) (Nat.le_trans HB7.out.size HB8.out.size))
  clear hT9 HU8
  go_wp2
  go_ret
  exact ⟨rfl, HB9.out⟩

end Go.Proofs.Ybulkcogu
