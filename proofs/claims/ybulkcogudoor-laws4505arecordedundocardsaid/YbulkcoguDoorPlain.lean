import Derived.KernelRfl
namespace Go.Proofs.YbulkcoguDoor
set_option linter.unusedVariables false
set_option linter.unusedSimpArgs false

/-- How many of the first k fulfil f. -/
def cnt (f : Nat → Bool) : Nat → Nat
  | 0 => 0
  | k + 1 => cnt f k + if f k then 1 else 0

/-- The sum of the first k. -/
def sumW (f : Nat → Int) : Nat → Int
  | 0 => 0
  | k + 1 => sumW f k + f k

theorem cnt_congr {f g : Nat → Bool} : ∀ {k : Nat}, (∀ i, i < k → f i = g i) → cnt f k = cnt g k
  | 0, _ => rfl
  | k + 1, h => by
    simp only [cnt]
    rw [cnt_congr (fun i hi => h i (by omega)), h k (by omega)]

theorem sumW_congr {f g : Nat → Int} : ∀ {k : Nat}, (∀ i, i < k → f i = g i) → sumW f k = sumW g k
  | 0, _ => rfl
  | k + 1, h => by
    simp only [sumW]
    rw [sumW_congr (fun i hi => h i (by omega)), h k (by omega)]

theorem cnt_change {f g : Nat → Bool} {v : Nat} (hf : f v = false) (hg : g v = true) (ho : ∀ i, i ≠ v → f i = g i) : ∀ {k : Nat}, v < k → cnt g k = cnt f k + 1
  | 0, h => by omega
  | k + 1, h => by
    simp only [cnt]
    by_cases he : v = k
    · subst he
      rw [cnt_congr (f := g) (g := f) (fun i hi => (ho i (by omega)).symm), hf, hg]
      simp
    · rw [cnt_change hf hg ho (by omega), ho k (by omega)]
      omega

theorem sumW_change {f g : Nat → Int} {v : Nat} (ho : ∀ i, i ≠ v → f i = g i) : ∀ {k : Nat}, v < k → sumW g k = sumW f k + (g v - f v)
  | 0, h => by omega
  | k + 1, h => by
    simp only [sumW]
    by_cases he : v = k
    · subst he
      rw [sumW_congr (f := g) (g := f) (fun i hi => (ho i (by omega)).symm)]
      omega
    · rw [sumW_change ho (by omega), ho k (by omega)]
      omega

theorem sumW_add (f g : Nat → Int) : ∀ k, sumW (fun i => f i + g i) k = sumW f k + sumW g k
  | 0 => rfl
  | k + 1 => by simp only [sumW]; rw [sumW_add f g k]; omega

theorem cnt_le {f g : Nat → Bool} (h : ∀ i, f i = true → g i = true) : ∀ k, cnt f k ≤ cnt g k
  | 0 => Nat.le_refl _
  | k + 1 => by
    simp only [cnt]
    have := cnt_le h k
    cases hf : f k with
    | false => simp; omega
    | true => rw [h k hf]; simp; omega

theorem cnt_bound (f : Nat → Bool) : ∀ k, cnt f k ≤ k
  | 0 => Nat.le_refl _
  | k + 1 => by
    simp only [cnt]
    have := cnt_bound f k
    split <;> omega

theorem sumW_bound {f : Nat → Int} (h : ∀ i, 0 ≤ f i ∧ f i ≤ 1) : ∀ k : Nat, 0 ≤ sumW f k ∧ sumW f k ≤ k
  | 0 => ⟨Int.le_refl _, Int.le_refl _⟩
  | k + 1 => by
    have := sumW_bound h k
    have := h k
    simp only [sumW]
    omega

def bit (x u : Nat) : Int := if x.testBit u then 1 else 0

theorem bit_01 (x u : Nat) : 0 ≤ bit x u ∧ bit x u ≤ 1 := by
  unfold bit
  split <;> omega

/-- x without bit v (below 512). -/
def andn (x v : Nat) : Nat := x &&& (511 ^^^ 2 ^ v)

theorem andn_lt {x v : Nat} (h : x < 512) : andn x v < 512 := Nat.lt_of_le_of_lt Nat.and_le_left h

theorem andn_le {x v : Nat} : andn x v ≤ x := Nat.and_le_left

theorem testBit_511 (u : Nat) : (511).testBit u = decide (u < 9) := by
  have : (511 : Nat) = 2 ^ 9 - 1 := rfl
  rw [this, Nat.testBit_two_pow_sub_one]

theorem big_bit {x u : Nat} (h : x < 512) (hu : 9 ≤ u) : x.testBit u = false := by
  apply Nat.testBit_lt_two_pow
  calc x < 512 := h
    _ = 2 ^ 9 := rfl
    _ ≤ 2 ^ u := Nat.pow_le_pow_right (by omega) hu

theorem andn_bit {x v : Nat} (h : x < 512) (hv : v < 9) (u : Nat) : (andn x v).testBit u = (x.testBit u && decide (u ≠ v)) := by
  unfold andn
  rw [Nat.testBit_and, Nat.testBit_xor, testBit_511, Nat.testBit_two_pow]
  by_cases hu : u < 9
  · by_cases hvu : v = u
    · subst hvu; simp [hu]
    · have : u ≠ v := fun e => hvu e.symm
      simp [hu, hvu, this]
  · rw [big_bit h (by omega)]
    simp

/-- The plain state: the live word, the waiting counts, the readers left. -/
structure PS where
  live : Nat
  wt : Nat → Int
  lf : Nat → Int

def put (f : Nat → Int) (k : Nat) (x : Int) : Nat → Int := fun u => if u = k then x else f u

def killP (add : Nat → Nat) (v : Nat) (c : PS) : PS := { c with live := andn c.live v, wt := fun u => c.wt u - bit (add v) u }

def stepP (add : Nat → Nat) (m g : Nat) (c : PS) : PS :=
  if c.lf g - 1 = 0 then killP add (m + g) { c with lf := put c.lf g (c.lf g - 1) } else { c with lf := put c.lf g (c.lf g - 1) }

def placeP (add : Nat → Nat) (rd : Nat → List Nat) (m i : Nat) (c : PS) : PS := (rd i).foldl (fun c g => stepP add m g c) (killP add i c)

/-- What waits, by the live word. -/
def Wt (add : Nat → Nat) (wait : Nat → Int) (live u : Nat) : Int := wait u - sumW (fun v => if live.testBit v then 0 else bit (add v) u) 9

theorem Wt_kill {add : Nat → Nat} {wait : Nat → Int} {live v : Nat} (hl : live < 512) (hv : v < 9) (hb : live.testBit v = true) (u : Nat) : Wt add wait (andn live v) u = Wt add wait live u - bit (add v) u := by
  unfold Wt
  rw [sumW_change (f := fun v => if live.testBit v then 0 else bit (add v) u) (g := fun w => if (andn live v).testBit w then 0 else bit (add w) u) (v := v) (fun i hi => by simp only [andn_bit hl hv]; simp [hi]) hv]
  simp only [andn_bit hl hv, hb]
  simp
  omega

/-- How many members read g; how many of those are placed. -/
def Cn (rd : Nat → List Nat) (m g : Nat) : Nat := cnt (fun i => (rd i).contains g) m
def Pn (rd : Nat → List Nat) (m : Nat) (pl : List Nat) (g : Nat) : Nat := cnt (fun i => (rd i).contains g && pl.contains i) m

/-- The closed form of the state when pl are placed. -/
structure Inv (add : Nat → Nat) (rd : Nat → List Nat) (wait : Nat → Int) (m s : Nat) (pl : List Nat) (c : PS) : Prop where
  mem : ∀ v, v < m → c.live.testBit v = !(pl.contains v)
  seg : ∀ g, g < s → c.live.testBit (m + g) = !(decide (0 < Cn rd m g) && decide (Pn rd m pl g = Cn rd m g))
  lt : c.live < 2 ^ (m + s)
  wt : ∀ u, c.wt u = Wt add wait c.live u
  lf : ∀ g, g < s → c.lf g = (Cn rd m g : Int) - (Pn rd m pl g : Int)

theorem Pn_push_in {rd : Nat → List Nat} {m i g : Nat} {pl : List Nat} (hi : i < m) (hn : i ∉ pl) (hg : g ∈ rd i) : Pn rd m (pl ++ [i]) g = Pn rd m pl g + 1 := by
  unfold Pn
  refine cnt_change (v := i) (by simp [hn]) (by simp [hg]) (fun j hj => ?_) hi
  have : (pl ++ [i]).contains j = pl.contains j := by simp [hj]
  rw [this]

theorem Pn_push_out {rd : Nat → List Nat} {m i g : Nat} {pl : List Nat} (hg : g ∉ rd i) : Pn rd m (pl ++ [i]) g = Pn rd m pl g := by
  unfold Pn
  refine cnt_congr (fun j hj => ?_)
  by_cases hji : j = i
  · subst hji
    have : (rd j).contains g = false := by simpa using hg
    rw [this]
    simp
  · have : (pl ++ [i]).contains j = pl.contains j := by simp [hji]
    rw [this]

theorem Pn_le {rd : Nat → List Nat} {m g : Nat} {pl : List Nat} : Pn rd m pl g ≤ Cn rd m g := cnt_le (fun i h => by simp at h ⊢; exact h.1) m

theorem pow_le_512 {m s : Nat} (h : m + s ≤ 9) : 2 ^ (m + s) ≤ 512 := Nat.pow_le_pow_right (n := 2) (by omega) h

/-- One placement. -/
theorem Inv.place {add : Nat → Nat} {rd : Nat → List Nat} {wait : Nat → Int} {m s : Nat} {pl : List Nat} {c : PS} (h : Inv add rd wait m s pl c) (hm : m + s ≤ 9) {i : Nat} (hi : i < m) (hn : i ∉ pl) (hrd : ∀ g ∈ rd i, g < s) (hnd : (rd i).Nodup) :
    Inv add rd wait m s (pl ++ [i]) (placeP add rd m i c) := by
  have key : ∀ (ds es : List Nat), ds ++ es = rd i → ∀ c' : PS, (∀ v, v < m → c'.live.testBit v = !((pl ++ [i]).contains v)) →
      (∀ g, g < s → c'.live.testBit (m + g) = !(decide (0 < Cn rd m g) && decide (Pn rd m (if g ∈ ds then pl ++ [i] else pl) g = Cn rd m g))) → c'.live < 2 ^ (m + s) → (∀ u, c'.wt u = Wt add wait c'.live u) →
      (∀ g, g < s → c'.lf g = (Cn rd m g : Int) - (Pn rd m (if g ∈ ds then pl ++ [i] else pl) g : Int)) → Inv add rd wait m s (pl ++ [i]) (es.foldl (fun c g => stepP add m g c) c') := by
    intro ds es
    induction es generalizing ds with
    | nil =>
      intro hds c' h1 h2 h3 h4 h5
      rw [List.append_nil] at hds
      have e : ∀ g, Pn rd m (if g ∈ ds then pl ++ [i] else pl) g = Pn rd m (pl ++ [i]) g := fun g => by
        by_cases hg : g ∈ ds
        · rw [if_pos hg]
        · rw [if_neg hg, Pn_push_out (by rw [← hds]; exact hg)]
      exact ⟨h1, fun g hg => by rw [List.foldl_nil, h2 g hg, e], h3, h4, fun g hg => by rw [List.foldl_nil, h5 g hg, e]⟩
    | cons g es ih =>
      intro hds c' h1 h2 h3 h4 h5
      rw [List.foldl_cons]
      have hgi : g ∈ rd i := by rw [← hds]; simp
      have hgs : g < s := hrd g hgi
      have hgd : g ∉ ds := by
        rw [← hds] at hnd
        rw [List.nodup_append] at hnd
        intro hgd
        exact hnd.2.2 g hgd g (by simp) rfl
      have hP : Pn rd m (pl ++ [i]) g = Pn rd m pl g + 1 := Pn_push_in hi hn hgi
      have hPl : Pn rd m (pl ++ [i]) g ≤ Cn rd m g := Pn_le
      have hlg := h5 g hgs
      rw [if_neg hgd] at hlg
      have hbit : c'.live.testBit (m + g) = true := by
        rw [h2 g hgs, if_neg hgd]
        have : ¬ Pn rd m pl g = Cn rd m g := by omega
        simp [this]
      have hl5 := pow_le_512 hm
      refine ih (ds ++ [g]) (by simp [← hds]) _ ?_ ?_ ?_ ?_ ?_
      · intro v hv
        unfold stepP
        split
        · show (andn c'.live (m + g)).testBit v = _
          rw [andn_bit (by omega) (by omega), h1 v hv]
          have : v ≠ m + g := by omega
          simp [this]
        · exact h1 v hv
      · intro g' hg'
        by_cases he : g' = g
        · subst he
          rw [if_pos (by simp)]
          unfold stepP
          split
          · rename_i h0
            show (andn c'.live (m + g')).testBit (m + g') = _
            rw [andn_bit (by omega) (by omega)]
            have h1 : Pn rd m (pl ++ [i]) g' = Cn rd m g' := by omega
            have h2 : 0 < Cn rd m g' := by omega
            simp [h1, h2]
          · rename_i h0
            show c'.live.testBit (m + g') = _
            rw [hbit]
            have h1 : ¬ Pn rd m (pl ++ [i]) g' = Cn rd m g' := by omega
            simp [h1]
        · have e : (if g' ∈ ds ++ [g] then pl ++ [i] else pl) = (if g' ∈ ds then pl ++ [i] else pl) := by simp [he]
          rw [e, ← h2 g' hg']
          unfold stepP
          split
          · show (andn c'.live (m + g)).testBit (m + g') = _
            rw [andn_bit (by omega) (by omega)]
            simp [he]
          · rfl
      · unfold stepP
        split
        · exact Nat.lt_of_le_of_lt andn_le h3
        · exact h3
      · intro u
        unfold stepP
        split
        · show c'.wt u - bit (add (m + g)) u = Wt add wait (andn c'.live (m + g)) u
          rw [Wt_kill (by omega) (by omega) hbit, h4 u]
        · exact h4 u
      · intro g' hg'
        have e : (stepP add m g c').lf g' = put c'.lf g (c'.lf g - 1) g' := by
          unfold stepP
          split <;> rfl
        rw [e]
        unfold put
        by_cases he : g' = g
        · subst he
          rw [if_pos rfl, if_pos (by simp), hlg, hP]
          omega
        · have e2 : (if g' ∈ ds ++ [g] then pl ++ [i] else pl) = (if g' ∈ ds then pl ++ [i] else pl) := by simp [he]
          rw [if_neg he, e2, h5 g' hg']
  have hl5 := pow_le_512 hm
  have hlt := h.lt
  refine key [] (rd i) rfl _ ?_ ?_ ?_ ?_ ?_
  · intro v hv
    show (andn c.live i).testBit v = _
    rw [andn_bit (by omega) (by omega), h.mem v hv]
    by_cases he : v = i
    · subst he; simp
    · simp [he]
  · intro g hg
    show (andn c.live i).testBit (m + g) = _
    rw [andn_bit (by omega) (by omega), h.seg g hg]
    have : m + g ≠ i := by omega
    simp [this]
  · exact Nat.lt_of_le_of_lt andn_le h.lt
  · intro u
    show c.wt u - bit (add i) u = Wt add wait (andn c.live i) u
    rw [Wt_kill (by omega) (by omega) (by rw [h.mem i hi]; simpa using hn), h.wt u]
  · intro g hg
    show c.lf g = _
    rw [h.lf g hg]
    simp

/-- At the start. -/
theorem Inv.start {add : Nat → Nat} {rd : Nat → List Nat} {wait : Nat → Int} {m s : Nat} (hm : m + s ≤ 9) {c : PS} (hl : c.live = 2 ^ (m + s) - 1) (hw : ∀ u, c.wt u = wait u) (hadd : ∀ v, m + s ≤ v → add v = 0) (hlf : ∀ g, g < s → c.lf g = (Cn rd m g : Int)) : Inv add rd wait m s [] c := by
  have hbit : ∀ v, v < m + s → c.live.testBit v = true := fun v hv => by rw [hl, Nat.testBit_two_pow_sub_one]; simpa using hv
  have hz : ∀ g, Pn rd m [] g = 0 := fun g => by
    unfold Pn
    have : ∀ k, cnt (fun i => (rd i).contains g && ([] : List Nat).contains i) k = 0 := fun k => by
      induction k with
      | zero => rfl
      | succ k ih => simp [cnt] at ih ⊢; exact ih
    exact this m
  refine ⟨fun v hv => by rw [hbit v (by omega)]; simp, fun g hg => ?_, by rw [hl]; have := Nat.two_pow_pos (m + s); omega, fun u => ?_, fun g hg => by rw [hlf g hg, hz]; simp⟩
  · rw [hbit _ (by omega), hz]
    by_cases h0 : 0 < Cn rd m g
    · have : ¬ (0 = Cn rd m g) := by omega
      simp [h0, this]
    · simp [h0]
  · rw [hw u]
    unfold Wt
    have : sumW (fun v => if c.live.testBit v then 0 else bit (add v) u) 9 = 0 := by
      rw [sumW_congr (g := fun _ => 0)]
      · rfl
      · intro v hv
        by_cases hvn : v < m + s
        · rw [hbit v hvn]; simp
        · rw [hadd v (by omega)]; simp [bit]
    omega
end Go.Proofs.YbulkcoguDoor
