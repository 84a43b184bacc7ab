import Derived.Test.YbulkcolcFind
namespace Go.Proofs.Ybulkcolc
open Go.RowKit Go.Deep
set_option linter.unusedVariables false
set_option linter.unusedSimpArgs false

theorem Yba.info3 : (Yba.prog.info? 3).map (fun i => (i.zero, i.size, i.bytes)) = some (some (.int .i64 0), 1, 8) := by kernel_rfl

/-- Below B, all but block gb is as it was. -/
structure Kept (B gb : Nat) (w w' : World) : Prop where
  os : w'.os = w.os
  tape : w'.tape = w.tape
  output : w'.output = w.output
  size : w.heap.size ≤ w'.heap.size
  block : ∀ k, k < B → k ≠ gb → w'.heap[k]? = w.heap[k]?

theorem Kept.below {B gb : Nat} {w0 w w' : World} (h : Kept B gb w0 w) (hb : Below w.heap.size w w') (hB : B ≤ w.heap.size) : Kept B gb w0 w' :=
  ⟨hb.os.trans h.os, hb.tape.trans h.tape, hb.output.trans h.output, Nat.le_trans h.size hb.size, fun k hk hn => (hb.block k (Nat.lt_of_lt_of_le hk hB)).trans (h.block k hk hn)⟩

def lits (G : List Int) : List Value := G.map (Value.int .i64)

/-- What 'got' holds. -/
structure Got (B gb : Nat) (w0 w : World) (G : List Int) : Prop where
  lt : gb < B
  base : B ≤ w.heap.size
  kept : Kept B gb w0 w
  row : ∃ ga gc, w.heap[gb]? = some (.cells #[.slice ga G.length gc] 29 (0, 0)) ∧ w.ownsRow B 3 1 (.slice ga G.length gc) G.length (lits G)

theorem grown_of_below {w w' : World} (h : Below w.heap.size w w') : w.grownBy w' none := ⟨h.os, h.tape, h.output, h.size, fun k hk _ => h.block k hk⟩

theorem own_kept_below {w w' : World} {B e size n : Nat} {v : Value} {xs : List Value} (h : w.ownsRow B e size v n xs) (hb : Below w.heap.size w w') : w'.ownsRow B e size v n xs :=
  h.kept (grown_of_below hb) (by cases hv : v.ownBlock <;> simp)

theorem Got.below {B gb : Nat} {w0 w w' : World} {G : List Int} (h : Got B gb w0 w G) (hb : Below w.heap.size w w') : Got B gb w0 w' G := by
  obtain ⟨ga, gc, h1, h2⟩ := h.row
  exact ⟨h.lt, Nat.le_trans h.base hb.size, h.kept.below hb h.base, ga, gc, (hb.block gb (Nat.lt_of_lt_of_le h.lt h.base)).trans h1, own_kept_below h2 hb⟩

theorem heap_set_same {w : World} {b o : Nat} {v : Value} {c : Array Value} {e : TypeId} {fz : Nat × Nat} (h : w.heap[b]? = some (.cells c e fz)) :
    (w.setCell ⟨b, o, none⟩ v).heap[b]? = some (.cells (c.setIfInBounds o v) e fz) := by
  simp [World.setCell, Array.getElem?_modify, h]

theorem cell_two_new (w : World) (x y : Value) (t : TypeId) : ∀ j u, [x, y][j]? = some u → (w.alloc (.cells #[x, y] t)).cell? ((⟨w.heap.size, 0, none⟩ : Addr).add j) = some u := by
  intro j u hj
  match j, hj with
  | 0, hj => simp at hj; subst hj; simp [Addr.add]
  | 1, hj => simp at hj; subst hj; simp [Addr.add]
  | (j + 2), hj => simp at hj

theorem free_in {w : World} {b o : Nat} {c : Array Value} {e : TypeId} (h : w.heap[b]? = some (.cells c e (0, 0))) : w.frozen? ⟨b, o, none⟩ = false := by
  simp [World.frozen?, h]

theorem own_shape {w : World} {B e size n : Nat} {v : Value} {xs : List Value} (h : w.ownsRow B e size v n xs) : ∃ a c, v = .slice a n c := by
  rcases h.2 with ⟨rfl, rfl⟩ | ⟨g, cap, _, rfl, _⟩
  · exact ⟨_, _, rfl⟩
  · exact ⟨_, _, rfl⟩

theorem grown_old {w w' : World} {B e size n : Nat} {v : Value} {xs : List Value} (h : w.ownsRow B e size v n xs) (hg : w.grownBy w' v.ownBlock) {k : Nat} (hk : k < B) (hs : k < w.heap.size) : w'.heap[k]? = w.heap[k]? :=
  hg.block k hs (fun e => by have := (h.lt k e.symm).1; omega)

theorem own_set {w : World} {B e size n : Nat} {v u : Value} {xs : List Value} {a : Addr} (h : w.ownsRow B e size v n xs) (ha : a.block < B) : (w.setCell a u).ownsRow B e size v n xs :=
  ownsRow_setCell_below h ha _

theorem add_any (B gb s e : Nat) (w0 w : World) (G : List Int) (h : Got B gb w0 w G) (hG : G.length ≤ 1000) :
    Calls Yba.prog 9 #[.int .i64 s, .int .i64 e, .pointer (some ⟨gb, 0, none⟩)] w fun x w' => x = .returned (.tuple #[]) ∧ Got B gb w0 w' (G ++ [(s : Int), (e : Int)]) := by
  obtain ⟨i0, hi, hz0, hz1, hz2⟩ := info_parts Yba.info3
  have HG : Hid (Got B gb w0 w G) := h
  obtain ⟨ga, gc, h1, h2⟩ := h.row
  have g0 : w.cell? ⟨gb, 0, none⟩ = some (.slice ga G.length gc) := cell_in h1 rfl
  have hlt := h.lt
  have hbase := h.base
  have HO : Hid (w.ownsRow B 3 1 (.slice ga G.length gc) G.length (lits G)) := h2
  have H1 : Hid (w.heap[gb]? = some (.cells #[.slice ga G.length gc] 29 (0, 0))) := h1
  clear h h1 h2
  go_enter Yba.func9, Yba.ntmps9
  go_wp2_with (at_builtin; refine wpList_append_own _ rfl (.tmp 5) (.tmp 8) 29 rfl B 3 i0 (.int .i64 0) 1 8 Yba.underlying29 hi hz0 hz1 hz2 rfl (by decide) _ _ _ rfl (HO.out.alloc _) ⟨w.heap.size, 0, none⟩ 2 2 [.int .i64 s, .int .i64 e] rfl rfl (cell_two_new _ _ _ _) (by intro u hu; simp at hu; rcases hu with rfl | rfl <;> rfl) (by unfold maxLen; omega) (by omega) (by simp; omega) ?_; intro v3 w3 hown3 hgrow3 hnil3; obtain ⟨a3, c3, rfl⟩ := own_shape hown3; have k3 := (grown_old (HO.out.alloc _) hgrow3 hlt (by simp; omega)).trans ((Below.heap_alloc w (.cells #[.int .i64 s, .int .i64 e] 3) gb (by omega)).trans H1.out); have g3 : w3.cell? ⟨gb, 0, none⟩ = some (.slice ga G.length gc) := cell_in k3 rfl; have f3 : w3.frozen? ⟨gb, 0, none⟩ = false := free_in k3; have HK3 : Hid (w3.heap[gb]? = some (.cells #[.slice ga G.length gc] 29 (0, 0))) := k3; clear k3 hnil3)
  go_end0
  refine ⟨rfl, hlt, ?_, ?_, ?_⟩
  · have := hgrow3.size
    simp at this ⊢
    omega
  · have K := HG.out.kept
    refine ⟨hgrow3.os.trans K.os, hgrow3.tape.trans K.tape, hgrow3.output.trans K.output, ?_, ?_⟩
    · have := hgrow3.size
      have := K.size
      simp at *
      omega
    · intro k hk hn
      rw [Below.heap_setCell _ _ _ _ hn, grown_old (HO.out.alloc _) hgrow3 hk (by simp; omega), Below.heap_alloc _ _ _ (by omega)]
      exact K.block k hk hn
  · refine ⟨a3, c3, ?_, ?_⟩
    · rw [heap_set_same HK3.out]
      simp
    · have := own_set (a := ⟨gb, 0, none⟩) (u := .slice a3 (G.length + 2) c3) hown3 hlt
      simpa [lits] using this

/-- A word of the line and what it hands to 'add'. -/
def Word (t : Nat → Int) (e s f : Nat) (g : List Int) : Prop :=
  s < f ∧ f ≤ e ∧ ((t s ≠ 34 ∧ g = []) ∨ ∃ m, Quoted t s m e ∧ g = if headB t s m = true then [((s + 1 : Nat) : Int), (m : Int)] else [])

def upto (gs : Nat → List Int) : Nat → List Int
  | 0 => []
  | k + 1 => upto gs k ++ gs k

theorem Ln.below {w w' : World} {L tb N tc e wb n wcp : Nat} {t : Nat → Int} {ws we : Nat → Nat} (h : Ln w L tb N tc e wb n wcp t ws we) (hb : Below w.heap.size w w') (hN : 0 < N) (hn : 0 < n) : Ln w' L tb N tc e wb n wcp t ws we :=
  h.of (hb.block _ (World.block_lt_of_cell? _ _ h.f0)) (hb.block _ (World.block_lt_of_cell? _ _ (h.txt 0 hN))) (hb.block _ (World.block_lt_of_cell? _ _ (h.w0 0 hn)))

theorem Got.grown {B gb : Nat} {w0 w : World} {G : List Int} (h : Got B gb w0 w G) (o : Obj) : Got B gb w0 (w.alloc o) G := h.below (Below.alloc (Below.refl _ _) (Nat.le_refl _) _)

theorem value_any (L tb N tc e wb n wcp k m B gb : Nat) (t : Nat → Int) (ws we : Nat → Nat) (w0 w : World) (G : List Int) (hL : Ln w L tb N tc e wb n wcp t ws we) (hk : k < n) (hn : n ≤ 1000) (hN : N ≤ 1000000) (he : e < N) (htc : N ≤ tc)
    (hq : Quoted t (ws k) m e) (hh : Head t (ws k) m) (hsf : ws k < we k) (hf : we k ≤ e) (hG : Got B gb w0 w G) (hGl : G.length ≤ 1000) :
    Calls Yba.prog 14 #[.pointer (some ⟨L, 0, none⟩), .int .i64 k, .func (.func 9) #[] #[.pointer (some ⟨gb, 0, none⟩)]] w fun x w' => x = .returned (.tuple #[]) ∧ Got B gb w0 w' (G ++ [((ws k + 1 : Nat) : Int), (m : Int)]) := by
  have HL : Hid (Ln w L tb N tc e wb n wcp t ws we) := hL
  have HGG : Hid (Got B gb w0 w G) := hG
  have g3 := hL.f3
  have hN0 : 0 < N := by omega
  have hn0 : 0 < n := by omega
  have c22 : Hid (∀ wx b c, Ln wx L tb N tc e wb n wcp t ws we → wx.cell? ⟨b, 0, none⟩ = some (.string ⟨#[123]⟩) → Calls Yba.prog 22 #[.pointer (some ⟨L, 0, none⟩), .int .i64 k, .slice (some ⟨b, 0, none⟩) 1 c] wx fun x w' => x = .returned (.bool false) ∧ Below wx.heap.size wx w') :=
    fun wx b c h hb => line_is_not L tb N tc e wb n wcp k b c t ws we wx h hk hn hN hsf (by omega) htc hq.q hb
  have c20 : Hid (∀ wx, Ln wx L tb N tc e wb n wcp t ws we → Calls Yba.prog 20 #[.pointer (some ⟨L, 0, none⟩), .int .i64 k] wx fun x w' => x = .returned (.tuple #[.int .i64 (ws k + 1 : Nat), .int .i64 m]) ∧ Below wx.heap.size wx w') :=
    fun wx h => span_any L tb N tc e wb n wcp k m t ws we wx h hk hn hN he hq
  have hsm : ws k + 1 < m := by have := hh.1; omega
  obtain ⟨s1, hs1⟩ : ∃ s1, s1 = ws k + 1 := ⟨_, rfl⟩
  rw [← hs1] at c20 hsm ⊢
  have c9 : Hid (∀ wx, Got B gb w0 wx G → Calls Yba.prog 9 #[.int .i64 s1, .int .i64 m, .pointer (some ⟨gb, 0, none⟩)] wx fun x w' => x = .returned (.tuple #[]) ∧ Got B gb w0 w' (G ++ [(s1 : Int), (m : Int)])) := fun wx h => add_any B gb s1 m w0 wx G h hGl
  clear hL hq hh hs1 hG
  go_enter Yba.func14, Yba.ntmps14
  go_wp2_with (first
    | (go_at_call 22; refine (c22.out _ _ _ (HL.out.below (Below.alloc (Below.refl _ _) (Nat.le_refl _) _) hN0 hn0) (by go_simp)).mono ?_; rintro x w1 ⟨rfl, hb1⟩; have L1 : Hid (Ln w1 L tb N tc e wb n wcp t ws we) := (HL.out.below (Below.alloc (Below.refl _ _) (Nat.le_refl _) _) hN0 hn0).below hb1 hN0 hn0; have G1 : Hid (Got B gb w0 w1 G) := (HGG.out.grown _).below hb1)
    | (go_at_call 20; refine (c20.out _ L1.out).mono ?_; rintro x w2 ⟨rfl, hb2⟩; have G2 : Hid (Got B gb w0 w2 G) := G1.out.below hb2)
    | (go_at_call 9; refine (c9.out _ G2.out).mono ?_; rintro x w3 ⟨rfl, G3⟩))
  go_end0
  exact ⟨rfl, G3⟩

end Go.Proofs.Ybulkcolc
