import Derived.Test.YbulkcoguDoorSta
import Derived.Deep.Cut
import Derived.Deep.CutRange
import Derived.Deep.DeepCutAuto
namespace Go.Proofs.YbulkcoguDoor
open Go.RowKit Go.Deep
set_option linter.unusedVariables false
set_option linter.unusedSimpArgs false

/-- Block b holds n cells, f j at j. -/
def Blk (w : World) (b : Nat) (t : TypeId) (n : Nat) (f : Nat → Value) : Prop := ∃ cur, w.heap[b]? = some (.cells cur t (0, 0)) ∧ cur.size = n ∧ ∀ j, j < n → cur[j]? = some (f j)

def updV (f : Nat → Value) (k : Nat) (v : Value) : Nat → Value := fun j => if j = k then v else f j

theorem Blk.cell {w : World} {b : Nat} {t : TypeId} {n : Nat} {f : Nat → Value} (h : Blk w b t n f) {j : Nat} (hj : j < n) : w.cell? ⟨b, j, none⟩ = some (f j) := by
  obtain ⟨cur, h1, h2, h3⟩ := h
  exact cell_in h1 (h3 j hj)

theorem Blk.free {w : World} {b : Nat} {t : TypeId} {n : Nat} {f : Nat → Value} (h : Blk w b t n f) (j : Nat) : w.frozen? ⟨b, j, none⟩ = false := by
  obtain ⟨cur, h1, h2, h3⟩ := h
  exact free_in h1

theorem Blk.lt {w : World} {b : Nat} {t : TypeId} {n : Nat} {f : Nat → Value} (h : Blk w b t n f) : b < w.heap.size := by
  obtain ⟨cur, h1, h2, h3⟩ := h
  exact (Array.getElem?_eq_some_iff.1 h1).1

theorem Blk.set {w : World} {b : Nat} {t : TypeId} {n : Nat} {f : Nat → Value} (h : Blk w b t n f) (k : Nat) (v : Value) : Blk (w.setCell ⟨b, k, none⟩ v) b t n (updV f k v) := by
  obtain ⟨cur, h1, h2, h3⟩ := h
  refine ⟨cur.setIfInBounds k v, heap_setCell_same w b k cur t v h1, by simpa using h2, fun j hj => ?_⟩
  unfold updV
  by_cases hk : j = k
  · subst hk
    rw [if_pos rfl, Array.getElem?_setIfInBounds_self_of_lt (by omega)]
  · rw [if_neg hk, Array.getElem?_setIfInBounds_ne (fun e => hk e.symm)]
    exact h3 j hj

theorem Blk.same {w w' : World} {b : Nat} {t : TypeId} {n : Nat} {f : Nat → Value} (h : Blk w b t n f) (hb : w'.heap[b]? = w.heap[b]?) : Blk w' b t n f := by
  obtain ⟨cur, h1, h2, h3⟩ := h
  exact ⟨cur, hb.trans h1, h2, h3⟩

theorem Blk.other {w : World} {b : Nat} {t : TypeId} {n : Nat} {f : Nat → Value} (h : Blk w b t n f) {b' k : Nat} (hne : b ≠ b') (v : Value) : Blk (w.setCell ⟨b', k, none⟩ v) b t n f := h.same (Below.heap_setCell _ _ _ _ hne)

theorem Blk.alloc {w : World} {b : Nat} {t : TypeId} {n : Nat} {f : Nat → Value} (h : Blk w b t n f) (o : Obj) : Blk (w.alloc o) b t n f := h.same (Below.heap_alloc _ _ _ h.lt)

theorem Blk.congr {w : World} {b : Nat} {t : TypeId} {n : Nat} {f g : Nat → Value} (h : Blk w b t n f) (hfg : ∀ j, j < n → f j = g j) : Blk w b t n g := by
  obtain ⟨cur, h1, h2, h3⟩ := h
  exact ⟨cur, h1, h2, fun j hj => (h3 j hj).trans (by rw [hfg j hj])⟩

theorem made_one (z : Value) (n i : Nat) (h : i < n) : (madeCells #[z] n)[i]? = some z := by
  simp [madeCells, h, Nat.mod_one]

theorem Blk.made (w : World) (z : Value) (t : TypeId) (n : Nat) : Blk (w.alloc (.cells (madeCells #[z] n) t)) w.heap.size t n (fun _ => z) :=
  ⟨_, heap_alloc_new w _, size_madeCells _ _, fun j hj => made_one z n j hj⟩

theorem row_mono {w : World} {base base' : Nat} {e : TypeId} {size : Nat} {v : Value} {n : Nat} {xs : List Value} (h : w.ownsRow base e size v n xs) (hb : base' ≤ base) : w.ownsRow base' e size v n xs := by
  refine ⟨h.1, ?_⟩
  rcases h.2 with hn | ⟨g, cap, cur, h1, h2, rest⟩
  · exact .inl hn
  · exact .inr ⟨g, cap, cur, h1, Nat.le_trans hb h2, rest⟩

/-- Ints at a. -/
def AtI (w : World) (a : Option Addr) (xs : List Nat) : Prop := ∀ j, j < xs.length → ∃ b o, a = some ⟨b, o, none⟩ ∧ w.cell? ⟨b, o + j, none⟩ = some (.int .i64 (xs.getD j 0 : Nat))

theorem row_at {w : World} {base n : Nat} {v : Value} {xs : List Nat} (h : w.ownsRow base 3 1 v n (xs.map encI)) (hn : n = xs.length) : ∃ a c, v = .slice a n c ∧ n ≤ c ∧ AtI w a xs := by
  rcases h.2 with ⟨h1, h2⟩ | ⟨g, cap, cur, h1, h2, h3, h4, h5, h6, h7⟩
  · exact ⟨none, 0, by rw [h1, h2], by omega, fun j hj => by omega⟩
  · refine ⟨_, cap, h1, h4, fun j hj => ⟨g, 0, rfl, ?_⟩⟩
    have hc := h.cells (g := g) (by rw [h1]; rfl) j (encI (xs.getD j 0)) (by simp [hj])
    rw [Addr.add_lit] at hc
    exact hc

set_option maxHeartbeats 1000000 in
/-- slices.Equal of two rows that read alike. -/
theorem equal_any (a b : Option Addr) (ca cb : Nat) (xs : List Nat) (hl : xs.length ≤ 1000) (w : World) (h1 : AtI w a xs) (h2 : AtI w b xs) :
    Calls Ybad.prog 19 #[.slice a xs.length ca, .slice b xs.length cb] w fun e w' => e = .returned (.bool true) ∧ ∃ n, w' = w.drewN n := by
  have H1 : Hid (AtI w a xs) := h1
  have H2 : Hid (AtI w b xs) := h2
  obtain ⟨n, hn⟩ : ∃ n, xs.length = n := ⟨_, rfl⟩
  have HN : Hid (xs.length = n) := hn
  rw [hn] at hl ⊢
  clear h1 h2 hn
  go_enter Ybad.func19, Ybad.ntmps19
  go_wp2
  go_loopw [13] (fun q wr => ∃ k : Nat, k ≤ n ∧ q = .int .i64 k ∧ ∃ d, wr = w.drewN d) (fun q _ => n - (intOf q).toNat)
  case atStart => exact ⟨0, Nat.zero_le _, rfl, 0, rfl⟩
  case round =>
    obtain ⟨k, hk, rfl, d, rfl⟩ := hrel
    by_cases hlt : k < n
    · obtain ⟨b1, o1, rfl, c1⟩ := H1.out k (by rw [HN.out]; exact hlt)
      obtain ⟨b2, o2, rfl, c2⟩ := H2.out k (by rw [HN.out]; exact hlt)
      obtain ⟨x, hx⟩ : ∃ x, xs.getD k 0 = x := ⟨_, rfl⟩
      rw [hx] at c1 c2
      clear hx
      go_wp2
      go_quiet (fail)
      go_wp2
      go_roundw
      case rel => exact ⟨k + 1, by omega, by go_num, _, rfl⟩
      case measure => simp [intOf]; omega
    · obtain rfl : k = n := by omega
      go_wp2
      go_ret
      exact ⟨rfl, _, rfl⟩

theorem Blk.sixteen (w : World) : Blk (w.alloc (Obj.cells #[Value.bool false, Value.bool false, Value.bool false, Value.bool false, Value.bool false, Value.bool false, Value.bool false, Value.bool false, Value.bool false, Value.bool false, Value.bool false, Value.bool false, Value.bool false, Value.bool false, Value.bool false, Value.bool false] 57)) w.heap.size 57 16 (fun _ => .bool false) := by
  refine ⟨_, heap_alloc_new w _, rfl, fun j hj => ?_⟩
  have : j = 0 ∨ j = 1 ∨ j = 2 ∨ j = 3 ∨ j = 4 ∨ j = 5 ∨ j = 6 ∨ j = 7 ∨ j = 8 ∨ j = 9 ∨ j = 10 ∨ j = 11 ∨ j = 12 ∨ j = 13 ∨ j = 14 ∨ j = 15 := by omega
  rcases this with rfl | rfl | rfl | rfl | rfl | rfl | rfl | rfl | rfl | rfl | rfl | rfl | rfl | rfl | rfl | rfl <;> rfl

theorem nodup_le {l : List Nat} {m : Nat} (h1 : l.Nodup) (h2 : ∀ v ∈ l, v < m) : l.length ≤ m := by
  induction m generalizing l with
  | zero =>
    cases l with
    | nil => simp
    | cons a l => exact absurd (h2 a (by simp)) (by omega)
  | succ m ih =>
    have h3 : (l.erase m).length ≤ m := ih (h1.erase m) (fun v hv => by
      have hm := List.mem_of_mem_erase hv
      have hne : v ≠ m := fun e => by
        subst e
        exact (List.Nodup.not_mem_erase h1) hv
      have := h2 v hm
      omega)
    by_cases hml : m ∈ l
    · rw [List.length_erase_of_mem hml] at h3
      omega
    · rw [List.erase_of_not_mem hml] at h3
      omega

/-- Bytes at a. -/
def AtB8 (w : World) (a : Option Addr) (xs : List Nat) : Prop := ∀ j, j < xs.length → ∃ b o, a = some ⟨b, o, none⟩ ∧ b < w.heap.size ∧ xs.getD j 0 < 256 ∧ w.cell? ⟨b, o + j, none⟩ = some (.int .u8 (xs.getD j 0 : Nat))

theorem Ybad.info3' : (Ybad.prog.info? 3).map (fun i => (i.zero, i.size, i.bytes)) = some (some (.int .i64 0), 1, 8) := by kernel_rfl

set_option maxRecDepth 100000 in
set_option maxHeartbeats 2000000 in
/-- The order: distinct members, at least one. -/
theorem order_any (m : Nat) (hm1 : 1 ≤ m) (hm : m ≤ 6) (a : Option Addr) (c : Nat) (raw : List Nat) (hr : raw.length ≤ 1024) (hc : raw.length ≤ c) (w : World) (h : AtB8 w a raw) :
    Calls Ybad.prog 6 #[.int .i64 m, .slice a raw.length c] w fun e w' => ∃ (ord : List Nat) (g cap : Nat), e = .returned (.slice (some ⟨g, 0, none⟩) ord.length cap) ∧ ord ≠ [] ∧ ord.Nodup ∧ (∀ v ∈ ord, v < m) ∧ ord.length ≤ 6 ∧
      w'.ownsRow w.heap.size 3 1 (.slice (some ⟨g, 0, none⟩) ord.length cap) ord.length (ord.map encI) ∧ Below w.heap.size w w' := by
  have H : Hid (AtB8 w a raw) := h
  obtain ⟨n, hn⟩ : ∃ n, raw.length = n := ⟨_, rfl⟩
  have HN : Hid (raw.length = n) := hn
  rw [hn] at hr hc ⊢
  obtain ⟨i0, hi0, hz0, hz1, hz2⟩ := info_parts Ybad.info3'
  have HI : Hid (Ybad.prog.info? 3 = some i0 ∧ i0.zero = some (.int .i64 0) ∧ i0.size = 1 ∧ i0.bytes = 8) := ⟨hi0, hz0, hz1, hz2⟩
  clear h hn hi0 hz0 hz1 hz2
  go_enter Ybad.func6, Ybad.ntmps6
  go_wp2
  go_loopw [6, 12] (fun v q wr => ∃ (k : Nat) (acc : List Nat), k ≤ n ∧ q = .int .i64 k ∧ acc.Nodup ∧ (∀ x ∈ acc, x < m) ∧ Blk wr w.heap.size 57 16 (fun v => .bool (acc.contains v)) ∧ wr.ownsRow (w.heap.size + 1) 3 1 v acc.length (acc.map encI) ∧ Below w.heap.size w wr) (fun _ q _ => n - (intOf q).toNat)
  case atStart => exact ⟨0, [], Nat.zero_le _, rfl, List.nodup_nil, by simp, (Blk.sixteen w).congr (fun j _ => rfl), World.ownsRow_nil _ _ _ _, (Below.refl _ w).alloc (Nat.le_refl _) _⟩
  case round =>
    obtain ⟨k, acc, hk, rfl, hnd, hlm, hblk, hown, hbel⟩ := hrel
    have HND : Hid (acc.Nodup) := hnd
    have HLM : Hid (∀ x ∈ acc, x < m) := hlm
    have HBL : Hid (Blk wr w.heap.size 57 16 (fun v => .bool (acc.contains v))) := hblk
    have HB : Hid (Below w.heap.size w wr) := hbel
    have hal := nodup_le hnd hlm
    have hsz : w.heap.size + 1 ≤ wr.heap.size := hblk.lt
    by_cases hlt : k < n
    · obtain ⟨b, o, rfl, hbl, hp8, cc⟩ := H.out k (by rw [HN.out]; exact hlt)
      obtain ⟨p, hp⟩ : ∃ p, raw.getD k 0 = p := ⟨_, rfl⟩
      rw [hp] at cc hp8
      have cw := (hbel.cell (p := ⟨b, o + k, none⟩) hbl).trans cc
      obtain ⟨v, hv⟩ : ∃ v, p % m = v := ⟨_, rfl⟩
      have hvm : v < m := by rw [← hv]; exact Nat.mod_lt _ (by omega)
      have htm : (p : Int).tmod (m : Int) = (v : Int) := by rw [Int.tmod_eq_emod_of_nonneg (by omega), ← hv]; rfl
      have hm0 : ¬ ((m : Int) = 0) := by omega
      have cv := hblk.cell (j := v) (by omega)
      have fv := hblk.free v
      have HOWN : Hid (wr.ownsRow (w.heap.size + 1) 3 1 u6 acc.length (acc.map encI)) := hown
      clear hp hv cc hnd hlm hown hblk hbel
      by_cases hin : v ∈ acc
      · have hct : acc.contains v = true := by simpa using hin
        rw [hct] at cv
        clear hct hin
        go_wp2
        go_roundw
        case rel => exact ⟨k + 1, acc, by omega, by go_num, HND.out, HLM.out, HBL.out, HOWN.out, HB.out⟩
        case measure => simp [intOf]; omega
      · have hct : acc.contains v = false := by simpa using hin
        rw [hct] at cv
        have HIN : Hid (v ∉ acc) := hin
        clear hct hin

        go_wp2_with (at_builtin; go_loud (refine wpList_append_lies _ (by rfl) _ _ _ (by rfl) (w.heap.size + 1) 3 i0 _ 1 8 Ybad.underlying28 HI.out.1 HI.out.2.1 HI.out.2.2.1 HI.out.2.2.2 rfl (by omega) u6 acc.length (acc.map encI) (by rfl) ((ownsRow_setCell_below HOWN.out (a := ⟨w.heap.size, v, none⟩) (Nat.lt_succ_self _) (.bool true)).alloc _) ⟨wr.heap.size, 0, none⟩ 1 1 [.int .i64 v] (by rfl) (by rfl) (World.news_of_block (cs := #[.int .i64 v]) (t := 3) (fr := (0, 0)) (by have := heap_alloc_new (wr.setCell ⟨w.heap.size, v, none⟩ (.bool true)) (Obj.cells #[.int .i64 v] 3); rw [World.size_setCell] at this; exact this)) (by simp [Value.oneCell']) (by omega) (by unfold maxLen; omega) (by omega) (by simp; omega) (wr.heap.size + 1) (by simp) ?_; intro gg cap w2 hown hgrow hat hlt))
        go_roundw
        case rel =>
          have hb1 : Blk ((wr.setCell ⟨w.heap.size, v, none⟩ (.bool true)).alloc (Obj.cells #[.int .i64 v] 3)) w.heap.size 57 16 _ := (HBL.out.set v (.bool true)).alloc _
          have hne : some w.heap.size ≠ u6.ownBlock := fun e => by have := (HOWN.out.lt _ e.symm).1; omega
          refine ⟨k + 1, acc ++ [v], by omega, by go_num, ?_, ?_, (hb1.same (hgrow.block _ (by simp; omega) hne)).congr (fun j hj => ?_), ?_, ?_⟩
          · rw [List.nodup_append]
            exact ⟨HND.out, by simp, fun a ha b hb => by simp at hb; subst hb; exact fun e => HIN.out (e ▸ ha)⟩
          · intro x hx
            rcases List.mem_append.1 hx with h | h
            · exact HLM.out x h
            · simp at h; omega
          · unfold updV
            by_cases hj2 : j = v
            · subst hj2; simp
            · simp [hj2]
          · have h9 : (acc ++ [v]).length = acc.length + 1 := by simp
            rw [h9, encI_map_push]
            exact hown
          · refine ((HB.out.setCell (p := ⟨w.heap.size, v, none⟩) (Nat.le_refl _) (.bool true)).alloc (by simp; omega) _).grown hgrow (by simp; omega) (fun k e => ?_)
            have := (HOWN.out.lt _ e).1
            omega
        case measure => simp [intOf]; omega
    · obtain rfl : k = n := by omega
      have HOWN : Hid (wr.ownsRow (w.heap.size + 1) 3 1 u6 acc.length (acc.map encI)) := hown
      by_cases h0 : acc = []
      · subst h0
        obtain ⟨sa, sc, hsv, _, _⟩ := row_at hown rfl
        simp only [List.length_nil] at hsv
        subst hsv
        clear hnd hlm hblk hbel hown
        go_wp2
        go_ret
        refine ⟨[0], wr.heap.size, 1, rfl, by simp, by simp, by simp; omega, by simp, ?_, HB.out.alloc (by omega) _⟩
        exact World.ownsRow_lit wr #[.int .i64 0] 1 (by omega) (by unfold maxLen; omega) rfl
      · obtain ⟨g, cap, hsv, _, _⟩ := hown.form (by cases acc with | nil => exact absurd rfl h0 | cons a l => simp)
        subst hsv
        have hlen0 : 0 < acc.length := by cases acc with | nil => exact absurd rfl h0 | cons a l => simp
        have hlb : ((acc.length : Int) == 0) = false := by simp; omega
        have HA0 : Hid (acc ≠ []) := h0
        obtain ⟨L0, hL0⟩ : ∃ L0, acc.length = L0 := ⟨_, rfl⟩
        have HL0 : Hid (acc.length = L0) := hL0
        rw [hL0] at hlb hlen0 hal HOWN ⊢
        clear hnd hlm hblk hbel hown h0 hL0
        go_wp2
        go_ret
        refine ⟨acc, g, cap, ?_, HA0.out, HND.out, HLM.out, ?_, ?_, HB.out⟩
        · have := HL0.out; rw [this]; rfl
        · have := HL0.out; rw [this]; omega
        · have := HL0.out
          rw [this]
          exact row_mono HOWN.out (by omega)
end Go.Proofs.YbulkcoguDoor
