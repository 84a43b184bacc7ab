import Derived.Test.YbulkcolcSeek
import Derived.Test.YbulkcolcState
namespace Go.Proofs.Ybulkcolc
open Go.RowKit Go.Deep
set_option linter.unusedVariables false
set_option linter.unusedSimpArgs false

theorem flat_len (gs : List (List Int)) (h : ∀ g ∈ gs, g.length ≤ 2) : gs.flatten.length ≤ 2 * gs.length := by
  induction gs with
  | nil => simp
  | cons g gs ih =>
    have h1 := h g (by simp)
    have h2 := ih (fun x hx => h x (by simp [hx]))
    simp only [List.flatten_cons, List.length_append, List.length_cons]
    omega

theorem flatW_at (W : List (Nat × Nat)) (j : Nat) (h : j < W.length) : (flatW W)[j * 2]? = some (.int .i64 (W.getD j (0, 0)).1) ∧ (flatW W)[j * 2 + 1]? = some (.int .i64 (W.getD j (0, 0)).2) := by
  induction W generalizing j with
  | nil => simp at h
  | cons p W ih =>
    have e : flatW (p :: W) = .int .i64 p.1 :: .int .i64 p.2 :: flatW W := by simp [flatW]
    rw [e]
    cases j with
    | zero => simp
    | succ j =>
      have := ih j (by simpa using h)
      rw [show (j + 1) * 2 = j * 2 + 1 + 1 by omega]
      simpa using this

theorem own_words {w : World} {B : Nat} {wa : Option Addr} {wc : Nat} {W : List (Nat × Nat)} (h : w.ownsRow B 38 2 (.slice wa W.length wc) W.length (flatW W)) (h0 : 0 < W.length) :
    ∃ g, wa = some ⟨g, 0, none⟩ ∧ g < w.heap.size ∧ ∀ j, j < W.length → w.cell? ⟨g, j * 2, none⟩ = some (.int .i64 (W.getD j (0, 0)).1) ∧ w.cell? ⟨g, j * 2 + 1, none⟩ = some (.int .i64 (W.getD j (0, 0)).2) := by
  have hcells := fun g hg => h.cells (g := g) hg
  rcases h.2 with ⟨_, hn⟩ | ⟨g, cap, cur, hv, hb, hg, hnc, _⟩
  · omega
  · injection hv with h1 h2 h3
    subst h1 h3
    refine ⟨g, rfl, (Array.getElem?_eq_some_iff.1 hg).1, fun j hj => ?_⟩
    have h1 := hcells g rfl (j * 2) _ (flatW_at W j hj).1
    have h2 := hcells g rfl (j * 2 + 1) _ (flatW_at W j hj).2
    rw [Addr.add_lit] at h1 h2
    simp only [Nat.zero_add] at h1 h2
    exact ⟨h1, h2⟩

theorem own_ints {w : World} {B : Nat} {wa : Option Addr} {wc : Nat} {G : List Int} (h : w.ownsRow B 3 1 (.slice wa G.length wc) G.length (lits G)) (h0 : 0 < G.length) :
    ∃ g, wa = some ⟨g, 0, none⟩ ∧ ∀ i, i < G.length → w.cell? ⟨g, i, none⟩ = some (.int .i64 (G.getD i 0)) := by
  have hcells := fun g hg => h.cells (g := g) hg
  rcases h.2 with ⟨_, hn⟩ | ⟨g, cap, cur, hv, hb, hg, hnc, _⟩
  · omega
  · injection hv with h1 h2 h3
    subst h1 h3
    refine ⟨g, rfl, fun i hi => ?_⟩
    have := hcells g rfl i (.int .i64 (G.getD i 0)) (by simp [lits, List.getD, hi])
    rw [Addr.add_lit] at this
    simpa using this

theorem find_none (L : Nat) (f : Value) (a : Option Addr) (c : Nat) (w : World) (h : w.cell? ⟨L, 3, none⟩ = some (.slice a 0 c)) :
    Calls Yba.prog 8 #[.pointer (some ⟨L, 0, none⟩), f] w fun x w' => x = .returned (.tuple #[]) ∧ w' = w := by
  go_enter Yba.func8, Yba.ntmps8
  go_wp2
  refine wp_loop_rounds 1 ?_
  rw [rounds_succ]
  go_wp2
  go_end0
  exact ⟨rfl, rfl⟩

/-- got and want agree. -/
theorem equal_rows {w : World} {B B' : Nat} {a1 a2 : Option Addr} {c1 c2 : Nat} {G : List Int} (hG : G.length ≤ 1000) (h1 : w.ownsRow B 3 1 (.slice a1 G.length c1) G.length (lits G)) (h2 : w.ownsRow B' 3 1 (.slice a2 G.length c2) G.length (lits G)) :
    Calls Yba.prog 10 #[.slice a1 G.length c1, .slice a2 G.length c2] w fun e w' => e = .returned (.bool true) ∧ ∃ n, w' = w.drewN n := by
  by_cases h0 : G.length = 0
  · have := equal_nil a1 a2 c1 c2 w
    rw [h0]
    exact this
  · obtain ⟨g1, rfl, e1⟩ := own_ints h1 (by omega)
    obtain ⟨g2, rfl, e2⟩ := own_ints h2 (by omega)
    exact equal_some g1 c1 g2 c2 G w (by omega) e1 e2

/-- The call of findJuniperSecrets in the law. -/
theorem find_call {B0 : Nat} {w0 w : World} {ta wa ga : Option Addr} {tc wcp gcp s0 n : Nat} {T X : List Int} {W : List (Nat × Nat)} {gs : List (List Int)} {G : List Int}
    (hS : St B0 w0 w [] (.slice ta (T ++ X).length tc) (.slice wa W.length wcp) (.slice ga G.length gcp) (T ++ X) W G) (hP : Plan True T W gs n) (hn : n ≤ 300) (hX : 0 < X.length) (hTl : (T ++ X).length ≤ 1000000) (hG : G = gs.flatten) :
    Calls Yba.prog 8 #[.pointer (some ⟨w.heap.size, 0, none⟩), .func (.func 9) #[] #[.pointer (some ⟨w.heap.size + 1, 0, none⟩)]]
      ((w.alloc (.cells #[.slice ta (T ++ X).length tc, .int .i64 s0, .int .i64 T.length, .slice wa W.length wcp, .slice none 0 0] 28)).alloc (.cells #[.slice none 0 0] 29))
      fun x w' => x = .returned (.tuple #[]) ∧ Below B0 w0 w' ∧ ∃ g2 c2, w'.cell? ⟨w.heap.size + 1, 0, none⟩ = some (.slice g2 G.length c2) ∧ w'.ownsRow B0 3 1 (.slice g2 G.length c2) G.length (lits G) ∧ w'.ownsRow B0 3 1 (.slice ga G.length gcp) G.length (lits G) := by
  obtain ⟨w2, hw2⟩ : ∃ w2, w2 = ((w.alloc (.cells #[.slice ta (T ++ X).length tc, .int .i64 s0, .int .i64 T.length, .slice wa W.length wcp, .slice none 0 0] 28)).alloc (.cells #[.slice none 0 0] 29)) := ⟨_, rfl⟩
  have hsz : w2.heap.size = w.heap.size + 1 + 1 := by rw [hw2]; simp
  have hL : w2.heap[w.heap.size]? = some (.cells #[.slice ta (T ++ X).length tc, .int .i64 s0, .int .i64 T.length, .slice wa W.length wcp, .slice none 0 0] 28 (0, 0)) := by
    rw [hw2, Below.heap_alloc _ _ _ (by simp)]; exact heap_alloc_new w _
  have hgb : w2.heap[w.heap.size + 1]? = some (.cells #[.slice none 0 0] 29 (0, 0)) := by
    rw [hw2]
    have := heap_alloc_new (w.alloc (.cells #[.slice ta (T ++ X).length tc, .int .i64 s0, .int .i64 T.length, .slice wa W.length wcp, .slice none 0 0] 28)) (.cells #[.slice none 0 0] 29)
    rwa [World.size_alloc] at this
  have hold : ∀ k, k < w.heap.size → w2.heap[k]? = w.heap[k]? := fun k hk => by rw [hw2, Below.heap_alloc _ _ _ (by simp; omega), Below.heap_alloc _ _ _ hk]
  have hS2 : St B0 w0 w2 [] (.slice ta (T ++ X).length tc) (.slice wa W.length wcp) (.slice ga G.length gcp) (T ++ X) W G := by rw [hw2]; exact (hS.alloc _).alloc _
  rw [← hw2]
  clear hw2
  have hGot : Got (w.heap.size + 1 + 1) (w.heap.size + 1) w2 w2 [] := ⟨by omega, by omega, ⟨rfl, rfl, rfl, Nat.le_refl _, fun _ _ _ => rfl⟩, none, 0, hgb, World.ownsRow_nil _ _ _ _⟩
  have fin : ∀ (x : Ending) (w' : World), (x = .returned (.tuple #[]) ∧ Got (w.heap.size + 1 + 1) (w.heap.size + 1) w2 w' G) → x = .returned (.tuple #[]) ∧ Below B0 w0 w' ∧ ∃ g2 c2, w'.cell? ⟨w.heap.size + 1, 0, none⟩ = some (.slice g2 G.length c2) ∧ w'.ownsRow B0 3 1 (.slice g2 G.length c2) G.length (lits G) ∧ w'.ownsRow B0 3 1 (.slice ga G.length gcp) G.length (lits G) := by
    rintro x w' ⟨hx, hg⟩
    have hb := hS.base
    have hB2 := hS2.below
    refine ⟨hx, ⟨hg.kept.os.trans hB2.os, hg.kept.tape.trans hB2.tape, hg.kept.output.trans hB2.output, Nat.le_trans hB2.size hg.kept.size, fun k hk => (hg.kept.block k (by omega) (by omega)).trans (hB2.block k hk)⟩, ?_⟩
    obtain ⟨g2, c2, h1, h2⟩ := hg.row
    refine ⟨g2, c2, cell_in h1 rfl, ⟨h2.1, h2.2.imp id (fun ⟨g, cap, cur, a, b, c⟩ => ⟨g, cap, cur, a, by omega, c⟩)⟩, hS2.wnt.1, ?_⟩
    rcases hS.wnt.2 with h | ⟨g, cap, cur, h1, h2, h3, h4⟩
    · exact .inl h
    · have hlt : g < w.heap.size := (Array.getElem?_eq_some_iff.1 h3).1
      exact .inr ⟨g, cap, cur, h1, h2, ((hg.kept.block g (by omega) (by omega)).trans (hold g hlt)).trans h3, h4⟩
  by_cases hn0 : W.length = 0
  · have hgs : gs = [] := List.eq_nil_of_length_eq_zero (by rw [hP.lenG, ← hP.lenW, hn0])
    have hG0 : G = [] := by rw [hG, hgs]; rfl
    refine (find_none w.heap.size _ wa wcp w2 (cell_in hL (by simp [hn0]))).mono fun x w' h => fin x w' ⟨h.1, ?_⟩
    rw [h.2, hG0]
    exact hGot
  · obtain ⟨tb, rfl, _, htc, htx⟩ := own_text hS2.txt (by simp; omega)
    obtain ⟨wb, rfl, hwb, hwd⟩ := own_words hS.wds (by omega)
    have htb : tb < w.heap.size := by
      rcases hS.txt.2 with ⟨h, _⟩ | ⟨g, cap, cur, h1, h2, h3, _⟩
      · simp at h
      · injection h1 with h1
        injection h1 with h1
        injection h1 with h1
        subst h1
        exact (Array.getElem?_eq_some_iff.1 h3).1
    have hLn : Ln w2 w.heap.size tb (T ++ X).length tc T.length wb W.length wcp (tf (T ++ X)) (fun j => (W.getD j (0, 0)).1) (fun j => (W.getD j (0, 0)).2) :=
      ⟨htx, cell_in hL rfl, cell_in hL rfl, cell_in hL rfl, fun j hj => (World.cell?_of_block (hold wb hwb)).trans (hwd j hj).1, fun j hj => (World.cell?_of_block (hold wb hwb)).trans (hwd j hj).2⟩
    have hfind := find_any w.heap.size tb (T ++ X).length tc T.length wb W.length wcp (w.heap.size + 1 + 1) (w.heap.size + 1) (tf (T ++ X)) (fun j => (W.getD j (0, 0)).1) (fun j => (W.getD j (0, 0)).2) (fun j => gs.getD j []) w2 hLn (by omega) (by have := hP.lenW; omega) hTl
      (by simp; omega) htc
      (fun i => by
        rcases Nat.lt_or_ge i (T ++ X).length with h | h
        · exact hS.byt _ (tf_mem h)
        · simp [tf, List.getD, List.getElem?_eq_none h])
      (fun k hk => by
        have h1 : W[k]? = some (W.getD k (0, 0)) := by simp [List.getD, hk]
        have hk2 : k < gs.length := by rw [hP.lenG, ← hP.lenW]; exact hk
        have h2 : gs[k]? = some (gs.getD k []) := by simp [List.getD, hk2]
        exact (hP.wds k _ _ h1 h2).word)
      (fun j => by
        rcases Nat.lt_or_ge j gs.length with h | h
        · have : gs.getD j [] ∈ gs := by simp [List.getD, h]
          exact hP.two _ this
        · simp [List.getD, List.getElem?_eq_none h])
      hGot ⟨by omega, by omega⟩ ⟨by omega, by omega⟩ ⟨by omega, by omega⟩
    rw [upto_flatten gs W.length (by rw [hP.lenG, ← hP.lenW]; exact Nat.le_refl _), show gs.take W.length = gs by rw [hP.lenW, ← hP.lenG]; exact List.take_length, ← hG] at hfind
    exact hfind.mono fun x w' h => fin x w' h
theorem find_call' {B0 : Nat} {w0 w : World} {ta wa ga : Option Addr} {tc wcp gcp s0 n N : Nat} {T X : List Int} {W : List (Nat × Nat)} {gs : List (List Int)} {G : List Int}
    (hS : St B0 w0 w [] (.slice ta N tc) (.slice wa W.length wcp) (.slice ga G.length gcp) (T ++ X) W G) (hN : (T ++ X).length = N) (hP : Plan (n = n) T W gs n) (hn : n ≤ 300) (hX : 0 < X.length) (hTl : N ≤ 1000000) (hG : G = gs.flatten) :
    Calls Yba.prog 8 #[.pointer (some ⟨w.heap.size, 0, none⟩), .func (.func 9) #[] #[.pointer (some ⟨w.heap.size + 1, 0, none⟩)]]
      ((w.alloc (.cells #[.slice ta N tc, .int .i64 s0, .int .i64 T.length, .slice wa W.length wcp, .slice none 0 0] 28)).alloc (.cells #[.slice none 0 0] 29))
      fun x w' => x = .returned (.tuple #[]) ∧ Below B0 w0 w' ∧ ∃ g2 c2, w'.cell? ⟨w.heap.size + 1, 0, none⟩ = some (.slice g2 G.length c2) ∧ Hid (w'.ownsRow B0 3 1 (.slice g2 G.length c2) G.length (lits G)) ∧ Hid (w'.ownsRow B0 3 1 (.slice ga G.length gcp) G.length (lits G)) := by
  subst hN
  have hP' : Plan True T W gs n := by
    have e : (n = n) = True := eq_self n
    rwa [e] at hP
  exact find_call hS hP' hn hX hTl hG

end Go.Proofs.Ybulkcolc
