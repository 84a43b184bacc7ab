import Derived.Test.YbulkcolcPlain
import Derived.Lib.AppendStr
namespace Go.Proofs.Ybulkcolc
open Go.RowKit Go.Deep
set_option linter.unusedVariables false
set_option linter.unusedSimpArgs false

theorem Yba.info5 : (Yba.prog.info? 5).map (fun i => (i.zero, i.size, i.bytes)) = some (some (.int .u8 0), 1, 1) := by kernel_rfl
theorem Yba.info38 : (Yba.prog.info? 38).map (fun i => (i.zero, i.size, i.bytes)) = some (some (.agg #[.int .i64 0, .int .i64 0]), 2, 16) := by kernel_rfl

def bys (T : List Int) : List Value := T.map (Value.int .u8)
def flatW (W : List (Nat × Nat)) : List Value := W.flatMap fun p => [Value.int .i64 p.1, Value.int .i64 p.2]

theorem flatW_len (W : List (Nat × Nat)) : (flatW W).length = W.length * 2 := by
  induction W with
  | nil => rfl
  | cons p W ih => simp [flatW] at ih ⊢; omega

/-- What the law has built so far. 'side': blocks of the loop's variables. -/
structure St (B : Nat) (w0 w : World) (side : List (Nat × Array Value)) (tv wv gv : Value) (T : List Int) (W : List (Nat × Nat)) (G : List Int) : Prop where
  below : Below B w0 w
  base : B ≤ w.heap.size
  txt : w.ownsRow B 5 1 tv T.length (bys T)
  wds : w.ownsRow B 38 2 wv W.length (flatW W)
  wnt : w.ownsRow B 3 1 gv G.length (lits G)
  byt : ∀ x ∈ T, 0 ≤ x ∧ x ≤ 255
  sid : ∀ b c, (b, c) ∈ side → w.heap[b]? = some (.cells c 36 (0, 0))

theorem own_apart {w : World} {B B' e1 e2 s1 s2 n1 n2 : Nat} {v1 v2 : Value} {x1 x2 : List Value} (h1 : w.ownsRow B e1 s1 v1 n1 x1) (h2 : w.ownsRow B' e2 s2 v2 n2 x2) (he : e1 ≠ e2) : v1.ownBlock = none ∨ v1.ownBlock ≠ v2.ownBlock := by
  rcases h1.2 with ⟨rfl, _⟩ | ⟨g, cap, cur, rfl, _, hg, _⟩
  · exact .inl rfl
  · rcases h2.2 with ⟨rfl, _⟩ | ⟨g', cap', cur', rfl, _, hg', _⟩
    · exact .inr (by simp [Value.ownBlock])
    · refine .inr fun h => he ?_
      have : g = g' := by simpa [Value.ownBlock] using h
      subst this
      rw [hg] at hg'
      injection hg' with h
      injection h

theorem side_kept {w w' : World} {B e s n b : Nat} {v : Value} {xs : List Value} {c : Array Value} (h : w.ownsRow B e s v n xs) (hg : w.grownBy w' v.ownBlock) (hc : w.heap[b]? = some (.cells c 36 (0, 0))) (he : e ≠ 36) : w'.heap[b]? = some (.cells c 36 (0, 0)) := by
  rw [hg.block b (Array.getElem?_eq_some_iff.1 hc).1 ?_]
  · exact hc
  · rcases h.2 with ⟨rfl, _⟩ | ⟨g, cap, cur, rfl, _, hgg, _⟩
    · simp [Value.ownBlock]
    · intro hh
      have : b = g := by simpa [Value.ownBlock] using hh
      subst this
      rw [hgg] at hc
      injection hc with hc
      injection hc with _ h2
      exact he h2

section
variable {B : Nat} {w0 w w' : World} {side : List (Nat × Array Value)} {tv wv gv v' : Value} {T : List Int} {W : List (Nat × Nat)} {G : List Int}

theorem St.alloc (h : St B w0 w side tv wv gv T W G) (o : Obj) : St B w0 (w.alloc o) side tv wv gv T W G :=
  ⟨h.below.alloc h.base o, by have := h.base; simp; omega, h.txt.alloc o, h.wds.alloc o, h.wnt.alloc o, h.byt, fun b c hb => by
    have := h.sid b c hb
    exact (Below.heap_alloc w o b (Array.getElem?_eq_some_iff.1 this).1).trans this⟩

theorem St.drewN (h : St B w0 w side tv wv gv T W G) (n : Nat) : St B w0 (w.drewN n) side tv wv gv T W G :=
  ⟨below_drewN h.below n, h.base, h.txt, h.wds, h.wnt, h.byt, h.sid⟩

theorem St.lay (h : St B w0 w side tv wv gv T W G) (c : Array Value) : St B w0 (w.alloc (.cells c 36)) [(w.heap.size, c)] tv wv gv T W G := by
  have h1 := h.alloc (.cells c 36)
  refine ⟨h1.below, h1.base, h1.txt, h1.wds, h1.wnt, h1.byt, fun b c' hb => ?_⟩
  simp at hb
  obtain ⟨rfl, rfl⟩ := hb
  exact heap_alloc_new w _

theorem St.bare (h : St B w0 w side tv wv gv T W G) : St B w0 w [] tv wv gv T W G :=
  ⟨h.below, h.base, h.txt, h.wds, h.wnt, h.byt, fun b c hb => by simp at hb⟩

theorem own_text {ta : Option Addr} {tc : Nat} {T : List Int} (h : w.ownsRow B 5 1 (.slice ta T.length tc) T.length (bys T)) (h0 : 0 < T.length) : ∃ g, ta = some ⟨g, 0, none⟩ ∧ B ≤ g ∧ T.length ≤ tc ∧ ∀ i, i < T.length → w.cell? ⟨g, i, none⟩ = some (.int .u8 (tf T i)) := by
  have hcells := fun g hg => h.cells (g := g) hg
  rcases h.2 with ⟨_, hn⟩ | ⟨g, cap, cur, hv, hb, hg, hnc, _⟩
  · omega
  · injection hv with h1 h2 h3
    subst h1 h3
    refine ⟨g, rfl, hb, hnc, fun i hi => ?_⟩
    have := hcells g rfl i (.int .u8 (tf T i)) (by simp [bys, tf, List.getD, hi])
    rw [Addr.add_lit] at this
    simpa using this

theorem St.text (h : St B w0 w side tv wv gv T W G) {X : List Int} (ho : w'.ownsRow B 5 1 v' (T ++ X).length (bys (T ++ X))) (hg : w.grownBy w' tv.ownBlock) (hX : ∀ x ∈ X, 0 ≤ x ∧ x ≤ 255) : St B w0 w' side v' wv gv (T ++ X) W G :=
  ⟨h.below.grown hg h.base (fun k hk => (h.txt.lt k hk).1), Nat.le_trans h.base hg.size, ho, h.wds.kept hg (own_apart h.wds h.txt (by decide)), h.wnt.kept hg (own_apart h.wnt h.txt (by decide)),
    fun x hx => (List.mem_append.1 hx).elim (h.byt x) (hX x), fun b c hb => side_kept h.txt hg (h.sid b c hb) (by decide)⟩

theorem St.words (h : St B w0 w side tv wv gv T W G) {X : List (Nat × Nat)} (ho : w'.ownsRow B 38 2 v' (W ++ X).length (flatW (W ++ X))) (hg : w.grownBy w' wv.ownBlock) : St B w0 w' side tv v' gv T (W ++ X) G :=
  ⟨h.below.grown hg h.base (fun k hk => (h.wds.lt k hk).1), Nat.le_trans h.base hg.size, h.txt.kept hg (own_apart h.txt h.wds (by decide)), ho, h.wnt.kept hg (own_apart h.wnt h.wds (by decide)),
    h.byt, fun b c hb => side_kept h.wds hg (h.sid b c hb) (by decide)⟩

theorem St.want (h : St B w0 w side tv wv gv T W G) {X : List Int} (ho : w'.ownsRow B 3 1 v' (G ++ X).length (lits (G ++ X))) (hg : w.grownBy w' gv.ownBlock) : St B w0 w' side tv wv v' T W (G ++ X) :=
  ⟨h.below.grown hg h.base (fun k hk => (h.wnt.lt k hk).1), Nat.le_trans h.base hg.size, h.txt.kept hg (own_apart h.txt h.wnt (by decide)), h.wds.kept hg (own_apart h.wds h.wnt (by decide)), ho,
    h.byt, fun b c hb => side_kept h.wnt hg (h.sid b c hb) (by decide)⟩

theorem cell_one_new (w : World) (x : Value) (t : TypeId) : ∀ j u, [x][j]? = some u → (w.alloc (.cells #[x] t)).cell? ((⟨w.heap.size, 0, none⟩ : Addr).add j) = some u := by
  intro j u hj
  match j, hj with
  | 0, hj => simp at hj; subst hj; simp [Addr.add]
  | (j + 1), hj => simp at hj

variable {ops : Array Oper} {rest : List Oper} {o : Oper} {a : Act} {Q : Exit → Act → World → Prop}

/-- text = append(text, c) -/
theorem wp_byte (hgd : o.guard = none) (s x : Operand) (ho : o.op = .call { callee := .builtin .append, args := #[s, x], argTypes := #[22, 22] }) (c : Int) (hs : a.eval s = tv) (g : Nat) (hgw : g = w.heap.size) (hx : a.eval x = .slice (some ⟨g, 0, none⟩) 1 1)
    (hS : St B w0 w side tv wv gv T W G) (hT : T.length ≤ 1000000) (hc : 0 ≤ c ∧ c ≤ 255)
    (h : ∀ ta tc w', Hid (St B w0 w' side (.slice ta (T.length + 1) tc) wv gv (T ++ [c]) W G) → wpList Yba.prog ops Q rest (a.put o.dst (.slice ta (T.length + 1) tc)) w') :
    wpList Yba.prog ops Q (o :: rest) a (w.alloc (.cells #[.int .u8 c] 5)) := by
  obtain ⟨i0, hi, hz0, hz1, hz2⟩ := info_parts Yba.info5
  subst hgw
  have h1 := hS.alloc (.cells #[.int .u8 c] 5)
  refine wpList_append_own _ hgd s x 22 ho B 5 i0 (.int .u8 0) 1 1 Yba.underlying22 hi hz0 hz1 hz2 rfl (by decide) tv _ _ hs h1.txt ⟨w.heap.size, 0, none⟩ 1 1 [.int .u8 c] hx rfl (cell_one_new _ _ _) (by intro u hu; simp at hu; subst hu; rfl) (by unfold maxLen; omega) (by omega) h1.base ?_
  intro v' w' hown hg _
  obtain ⟨ta, tc, rfl⟩ := own_shape hown
  refine h ta tc w' (h1.text ?_ hg (by simpa using hc))
  simpa [bys] using hown

theorem wp_str (hgd : o.guard = none) (s x : Operand) (ho : o.op = .call { callee := .builtin .append, args := #[s, x], argTypes := #[22, 9] }) (b : ByteArray) (X : List Int) (m : Nat) (hm : b.size = m) (hX : Lib.strCells b = bys X) (hs : a.eval s = tv) (hx : a.eval x = .string b)
    (hS : St B w0 w side tv wv gv T W G) (hT : T.length ≤ 1000000) (hXl : X.length = m) (hm2 : m ≤ 1000) (hc : ∀ x ∈ X, 0 ≤ x ∧ x ≤ 255)
    (h : ∀ ta tc w', Hid (St B w0 w' side (.slice ta (T.length + m) tc) wv gv (T ++ X) W G) → wpList Yba.prog ops Q rest (a.put o.dst (.slice ta (T.length + m) tc)) w') :
    wpList Yba.prog ops Q (o :: rest) a w := by
  obtain ⟨i0, hi, hz0, hz1, hz2⟩ := info_parts Yba.info5
  refine Lib.wpList_append_own_string _ hgd s x 22 9 ho B 5 i0 Yba.underlying22 Yba.underlying9 hi hz0 hz1 hz2 tv _ _ hs hS.txt b hx (by unfold maxLen; omega) (by omega) hS.base ?_
  intro v' w' hown hg _
  rw [hm] at hown
  obtain ⟨ta, tc, rfl⟩ := own_shape hown
  refine h ta tc w' (hS.text ?_ hg hc)
  rw [hX] at hown
  simpa [bys, hXl] using hown

theorem wp_word (hgd : o.guard = none) (s x : Operand) (ho : o.op = .call { callee := .builtin .append, args := #[s, x], argTypes := #[26, 26] }) (p q : Nat) (hs : a.eval s = wv) (g : Nat) (hgw : g = w.heap.size) (hx : a.eval x = .slice (some ⟨g, 0, none⟩) 1 1)
    (hS : St B w0 w side tv wv gv T W G) (hW : W.length ≤ 1000000)
    (h : ∀ ta tc w', Hid (St B w0 w' side tv (.slice ta (W.length + 1) tc) gv T (W ++ [(p, q)]) G) → wpList Yba.prog ops Q rest (a.put o.dst (.slice ta (W.length + 1) tc)) w') :
    wpList Yba.prog ops Q (o :: rest) a (w.alloc (.cells #[.int .i64 p, .int .i64 q] 38)) := by
  obtain ⟨i0, hi, hz0, hz1, hz2⟩ := info_parts Yba.info38
  subst hgw
  have h1 := hS.alloc (.cells #[.int .i64 p, .int .i64 q] 38)
  refine wpList_append_own _ hgd s x 26 ho B 38 i0 (.agg #[.int .i64 0, .int .i64 0]) 2 16 Yba.underlying26 hi hz0 hz1 hz2 rfl (by decide) wv _ _ hs h1.wds ⟨w.heap.size, 0, none⟩ 1 1 [.int .i64 p, .int .i64 q] hx rfl (cell_two_new _ _ _ _) (by intro u hu; simp at hu; rcases hu with rfl | rfl <;> rfl) (by unfold maxLen; omega) (by omega) h1.base ?_
  intro v' w' hown hg _
  obtain ⟨ta, tc, rfl⟩ := own_shape hown
  refine h ta tc w' (h1.words ?_ hg)
  simpa [flatW] using hown

theorem wp_want (hgd : o.guard = none) (s x : Operand) (ho : o.op = .call { callee := .builtin .append, args := #[s, x], argTypes := #[29, 29] }) (p q : Int) (hs : a.eval s = gv) (g : Nat) (hgw : g = w.heap.size) (hx : a.eval x = .slice (some ⟨g, 0, none⟩) 2 2)
    (hS : St B w0 w side tv wv gv T W G) (hG : G.length ≤ 1000000)
    (h : ∀ ta tc w', Hid (St B w0 w' side tv wv (.slice ta (G.length + 2) tc) T W (G ++ [p, q])) → wpList Yba.prog ops Q rest (a.put o.dst (.slice ta (G.length + 2) tc)) w') :
    wpList Yba.prog ops Q (o :: rest) a (w.alloc (.cells #[.int .i64 p, .int .i64 q] 3)) := by
  obtain ⟨i0, hi, hz0, hz1, hz2⟩ := info_parts Yba.info3
  subst hgw
  have h1 := hS.alloc (.cells #[.int .i64 p, .int .i64 q] 3)
  refine wpList_append_own _ hgd s x 29 ho B 3 i0 (.int .i64 0) 1 8 Yba.underlying29 hi hz0 hz1 hz2 rfl (by decide) gv _ _ hs h1.wnt ⟨w.heap.size, 0, none⟩ 2 2 [.int .i64 p, .int .i64 q] hx rfl (cell_two_new _ _ _ _) (by intro u hu; simp at hu; rcases hu with rfl | rfl <;> rfl) (by unfold maxLen; omega) (by omega) h1.base ?_
  intro v' w' hown hg _
  obtain ⟨ta, tc, rfl⟩ := own_shape hown
  refine h ta tc w' (h1.want ?_ hg)
  simpa [lits] using hown
end
end Go.Proofs.Ybulkcolc
