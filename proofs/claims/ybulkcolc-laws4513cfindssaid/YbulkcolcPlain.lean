import Derived.Test.YbulkcolcLook
namespace Go.Proofs.Ybulkcolc
open Go.RowKit Go.Deep
set_option linter.unusedVariables false
set_option linter.unusedSimpArgs false

def tf (T : List Int) (i : Nat) : Int := T.getD i 0

theorem tf_app {T X : List Int} {i : Nat} (h : i < T.length) : tf (T ++ X) i = tf T i := by
  simp [tf, List.getD, List.getElem?_append, h]

theorem tf_app' {T X : List Int} {i : Nat} (h : T.length ≤ i) : tf (T ++ X) i = tf X (i - T.length) := by
  simp [tf, List.getD, List.getElem?_append, Nat.not_lt.2 h]

/-- A word of the text so far; 'fin': the text is at its end. -/
def Wd (fin : Prop) (T : List Int) (s f : Nat) (g : List Int) : Prop :=
  s < f ∧ f ≤ T.length ∧ ((tf T s ≠ 34 ∧ g = []) ∨ ∃ m, Quoted (tf T) s m T.length ∧ (m < T.length ∨ fin) ∧ g = if headB (tf T) s m = true then [((s + 1 : Nat) : Int), (m : Int)] else [])

theorem Head_congr {t t' : Nat → Int} {s m : Nat} (h : ∀ i, i < m → t' i = t i) : Head t' s m ↔ Head t s m := by
  unfold Head
  constructor <;> rintro ⟨h1, h2, h3, h4⟩
  · exact ⟨h1, by rw [← h _ (by omega)]; exact h2, by rw [← h _ (by omega)]; exact h3, by rw [← h _ (by omega)]; exact h4⟩
  · exact ⟨h1, by rw [h _ (by omega)]; exact h2, by rw [h _ (by omega)]; exact h3, by rw [h _ (by omega)]; exact h4⟩

theorem headB_congr {t t' : Nat → Int} {s m : Nat} (h : ∀ i, i < m → t' i = t i) : headB t' s m = headB t s m :=
  Bool.eq_iff_iff.2 (by rw [headB_iff, headB_iff]; exact Head_congr h)

theorem Wd.app {fin : Prop} {T X : List Int} {s f : Nat} {g : List Int} (h : Wd False T s f g) : Wd fin (T ++ X) s f g := by
  obtain ⟨h1, h2, h3⟩ := h
  refine ⟨h1, by simp; omega, ?_⟩
  rcases h3 with ⟨h3, h4⟩ | ⟨m, hq, hm, hg⟩
  · exact .inl ⟨by rw [tf_app (by omega)]; exact h3, h4⟩
  · have hm : m < T.length := hm.resolve_right id
    refine .inr ⟨m, ⟨by rw [tf_app (by omega)]; exact hq.q, hq.lo, by simp; omega, fun i a b => by rw [tf_app (by omega)]; exact hq.inn i a b, fun _ => by rw [tf_app hm]; exact hq.shut hm⟩, .inl (by simp; omega), ?_⟩
    rw [hg]
    rw [headB_congr (t := tf T) (t' := tf (T ++ X)) (s := s) (m := m) (fun i hi => tf_app (by omega))]

theorem Wd.word {fin : Prop} {T X : List Int} {s f : Nat} {g : List Int} (h : Wd fin T s f g) : Word (tf (T ++ X)) T.length s f g := by
  obtain ⟨h1, h2, h3⟩ := h
  refine ⟨h1, h2, ?_⟩
  rcases h3 with ⟨h3, h4⟩ | ⟨m, hq, hm, hg⟩
  · exact .inl ⟨by rw [tf_app (by omega)]; exact h3, h4⟩
  · have := hq.hi
    refine .inr ⟨m, ⟨by rw [tf_app (by have := hq.lo; omega)]; exact hq.q, hq.lo, hq.hi, fun i a b => by rw [tf_app (by omega)]; exact hq.inn i a b, fun h => by rw [tf_app h]; exact hq.shut h⟩, ?_⟩
    rw [hg]
    rw [headB_congr (t := tf T) (t' := tf (T ++ X)) (s := s) (m := m) (fun i hi => tf_app (by omega))]

structure Plan (fin : Prop) (T : List Int) (W : List (Nat × Nat)) (gs : List (List Int)) (k : Nat) : Prop where
  lenW : W.length = k
  lenG : gs.length = k
  wds : ∀ (j : Nat) (p : Nat × Nat) (g : List Int), W[j]? = some p → gs[j]? = some g → Wd fin T p.1 p.2 g
  two : ∀ g ∈ gs, g.length ≤ 2

theorem Plan.nil (fin : Prop) (T : List Int) : Plan fin T [] [] 0 := ⟨rfl, rfl, fun j p g h => by simp at h, fun g h => by simp at h⟩

theorem Plan.step {fin : Prop} {T X : List Int} {W : List (Nat × Nat)} {gs : List (List Int)} {k s f : Nat} {g : List Int} (h : Plan False T W gs k) (hw : Wd fin (T ++ X) s f g) (h2 : g.length ≤ 2) :
    Plan fin (T ++ X) (W ++ [(s, f)]) (gs ++ [g]) (k + 1) := by
  refine ⟨by simp [h.lenW], by simp [h.lenG], ?_, ?_⟩
  · intro j p g' hp hg
    rcases Nat.lt_trichotomy j k with hj | hj | hj
    · rw [List.getElem?_append_left (by rw [h.lenW]; exact hj)] at hp
      rw [List.getElem?_append_left (by rw [h.lenG]; exact hj)] at hg
      exact (h.wds j p g' hp hg).app
    · subst hj
      rw [List.getElem?_append_right (by rw [h.lenW]; exact Nat.le_refl _), h.lenW] at hp
      rw [List.getElem?_append_right (by rw [h.lenG]; exact Nat.le_refl _), h.lenG] at hg
      simp at hp hg
      subst hp hg
      exact hw
    · rw [List.getElem?_eq_none (by simp [h.lenW]; omega)] at hp
      cases hp
  · intro g' hg
    rcases List.mem_append.1 hg with hg | hg
    · exact h.two g' hg
    · simp at hg; subst hg; exact h2

/-- The bytes of a word's body. -/
def Alpha (C : List Int) : Prop := ∀ x ∈ C, x = 36 ∨ x = 57 ∨ x = 97 ∨ x = 98 ∨ x = 123

theorem tf_mem {C : List Int} {i : Nat} (h : i < C.length) : tf C i ∈ C := by
  simp [tf, List.getD, h]

/-- A plain word. -/
theorem Wd_plain {fin : Prop} {T1 C : List Int} (hC : Alpha C) (hne : 0 < C.length) : Wd fin (T1 ++ C) T1.length (T1 ++ C).length [] := by
  refine ⟨by simp; omega, Nat.le_refl _, .inl ⟨?_, rfl⟩⟩
  rw [tf_app' (Nat.le_refl _), Nat.sub_self]
  have := hC _ (tf_mem (C := C) (i := 0) hne)
  omega

/-- A quoted word. -/
theorem Wd_quoted {fin : Prop} {T1 C Z : List Int} (hC : Alpha C) (hZ : Z = [34] ∨ (Z = [] ∧ fin)) :
    Wd fin (T1 ++ ([34] ++ C ++ Z)) T1.length (T1 ++ ([34] ++ C ++ Z)).length (if headB (tf (T1 ++ ([34] ++ C ++ Z))) T1.length (T1.length + 1 + C.length) = true then [((T1.length + 1 : Nat) : Int), ((T1.length + 1 + C.length : Nat) : Int)] else []) := by
  refine ⟨by simp, Nat.le_refl _, .inr ⟨T1.length + 1 + C.length, ⟨?_, by omega, by simp; omega, ?_, ?_⟩, ?_, rfl⟩⟩
  · rw [tf_app' (Nat.le_refl _), Nat.sub_self]; rfl
  · intro i h1 h2
    have e : tf (T1 ++ ([34] ++ C ++ Z)) i = tf C (i - T1.length - 1) := by
      rw [tf_app' (by omega), List.append_assoc, tf_app' (by simp; omega), tf_app (by simp; omega)]
      simp
    rw [e]
    have := hC _ (tf_mem (C := C) (i := i - T1.length - 1) (by omega))
    omega
  · intro h
    rcases hZ with rfl | ⟨rfl, _⟩
    · rw [tf_app' (by omega), List.append_assoc, tf_app' (by simp; omega), tf_app' (by simp; omega)]
      have : T1.length + 1 + C.length - T1.length - [(34 : Int)].length - C.length = 0 := by simp; omega
      rw [this]
      rfl
    · simp at h; omega
  · rcases hZ with rfl | ⟨rfl, hf⟩
    · left; simp; omega
    · exact .inr hf

theorem Plan.off {fin : Prop} {T : List Int} {W : List (Nat × Nat)} {gs : List (List Int)} {k : Nat} (h : Plan fin T W gs k) (hf : ¬ fin) : Plan False T W gs k :=
  ⟨h.lenW, h.lenG, fun j p g a b => by have := h.wds j p g a b; rwa [eq_false hf] at this, h.two⟩

theorem plan_plain {n k : Nat} {T X1 T1 C5 T6 : List Int} {W : List (Nat × Nat)} {gs : List (List Int)} (h : Plan (k = n) T W gs k) (hlt : k < n) (hT1 : T1 = T ++ X1) (hC : Alpha C5) (hne : 0 < C5.length) (hT6 : T6 = T1 ++ C5) :
    Plan (k + 1 = n) T6 (W ++ [(T1.length, T6.length)]) (gs ++ [[]]) (k + 1) := by
  have h2 := (h.off (by omega)).step (fin := k + 1 = n) (X := X1 ++ C5) (s := T1.length) (f := T6.length) (g := []) (by
    rw [← List.append_assoc, ← hT1, hT6]
    exact Wd_plain hC hne) (by simp)
  rwa [← List.append_assoc, ← hT1, ← hT6] at h2

theorem plan_quoted {n k : Nat} {T X1 T1 C5 Z T6 : List Int} {W : List (Nat × Nat)} {gs : List (List Int)} {g : List Int} (h : Plan (k = n) T W gs k) (hlt : k < n) (hT1 : T1 = T ++ X1) (hC : Alpha C5) (hT6 : T6 = T1 ++ ([34] ++ C5 ++ Z))
    (hZ : Z = [34] ∨ (Z = [] ∧ k + 1 = n)) (hg : g = if headB (tf T6) T1.length (T1.length + 1 + C5.length) = true then [((T1.length + 1 : Nat) : Int), ((T1.length + 1 + C5.length : Nat) : Int)] else []) :
    Plan (k + 1 = n) T6 (W ++ [(T1.length, T6.length)]) (gs ++ [g]) (k + 1) := by
  have h2 := (h.off (by omega)).step (fin := k + 1 = n) (X := X1 ++ ([34] ++ C5 ++ Z)) (s := T1.length) (f := T6.length) (g := g) (by
    rw [← List.append_assoc, ← hT1, hg, hT6]
    exact Wd_quoted hC hZ) (by rw [hg]; split <;> simp)
  rwa [← List.append_assoc, ← hT1, ← hT6] at h2

theorem upto_flatten (gs : List (List Int)) (k : Nat) (h : k ≤ gs.length) : upto (fun j => gs.getD j []) k = (gs.take k).flatten := by
  induction k with
  | zero => simp [upto]
  | succ k ih =>
    rw [upto, ih (by omega), List.take_add_one]
    have : gs[k]? = some (gs.getD k []) := by simp [List.getD, show k < gs.length by omega]
    rw [this]
    simp

end Go.Proofs.Ybulkcolc
