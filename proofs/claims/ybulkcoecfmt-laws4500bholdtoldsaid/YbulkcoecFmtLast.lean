import Derived.Test.YbulkcoecFmtProg
import Derived.KernelRfl
import Derived.WalkKit
import Derived.WalkSpells
import Derived.WalkLawsBesides
import Derived.BigQuiet
import Derived.Deep.LoopGhost
import Derived.Deep.OwnRows
import Derived.BigRegion
import Derived.Deep.RegionHeld3
import Derived.Deep.AppendLies
import Derived.Deep.Cut
import Derived.OrdersHeld
import Derived.RegionTactic
/-
  A region that draws its order, in which ONE operation L (a store) waits for all the others and may break the condition S under which the loads are taken first: S is shown anew behind every operation but L.
-/
namespace Go.Proofs.YbulkcoecFmt
section
variable {P : Program} {ops : Array Oper} {Q : Exit → Act → World → Prop} {md : Region.Mode} {S : World → Prop} {L : Nat}

/-- Whatever order is picked from here on; S holds behind every operation but L. -/
def wpL (P : Program) (md : Region.Mode) (ops : Array Oper) (Q : Exit → Act → World → Prop) (S : World → Prop) (L : Nat) : Nat → Array Bool → Act → World → Prop
  | 0, listed, a, w => Region.ready md ops listed = [] ∧ Q .normal a w
  | fuel + 1, listed, a, w =>
    (Region.ready md ops listed = [] → Q .normal a w) ∧
    ∀ i ∈ Region.ready md ops listed, wpOp P ops Q i (fun a' w' => (i ≠ L → S w') ∧ wpL P md ops Q S L fuel (listed.setIfInBounds i true) a' w') a w

theorem wpAny_of_L : ∀ (fuel : Nat) (listed : Array Bool) (a : Act) (w : World), wpL P md ops Q S L fuel listed a w → wpAny P md ops Q fuel listed a w
  | 0, _, _, _, h => h
  | fuel + 1, _, _, _, h => ⟨h.1, fun i hi => wpOp_mono (fun a' w' h' => wpAny_of_L fuel _ a' w' h'.2) (h.2 i hi)⟩

/-- While i has not come up, L has not. -/
theorem not_L {i j : Nat} {listed : Array Bool} (hw : ∀ o, ops[L]? = some o → ∃ e ∈ o.after, Region.binds md e = true ∧ e.on = i) (hi : listed.getD i true = false)
    (hj : j ∈ Region.ready md ops listed) : j ≠ L := by
  rintro rfl
  obtain ⟨_, o, ho, hall⟩ := mem_ready.1 hj
  obtain ⟨e, he, hb, hon⟩ := hw o ho
  have h1 := hall e he hb
  rw [hon] at h1
  cases hx : listed[i]? with
  | none => simp [hx] at h1
  | some b => simp [hx] at h1 hi; rw [hi] at h1; cases h1

theorem wpL_first {i : Nat} {oi : Oper} {v : Value} (hi : ops[i]? = some oi) (hsel : ∀ (j : Nat) (o : Oper) cs b, ops[j]? = some o → o.op ≠ .select cs b)
    (hQ : ∀ c a w, Q (.panic c) (a.put oi.dst v) w → Q (.panic c) a w) (hw : ∀ o, ops[L]? = some o → ∃ e ∈ o.after, Region.binds md e = true ∧ e.on = i) :
    ∀ (fuel : Nat) (listed : Array Bool) (a : Act) (w : World),
      (∀ j oj, ops[j]? = some oj → j ≠ i → listed.getD j true = false → (∀ e ∈ oj.after, Region.binds md e = true → e.on ≠ i) → oi.apart ops oj = true) →
      i ∈ Region.ready md ops listed → YieldsIf P ops S oi v a → S w →
      wpL P md ops Q S L fuel (listed.setIfInBounds i true) (a.put oi.dst v) w → wpL P md ops Q S L (fuel + 1) listed a w
  | fuel, listed, a, w, hfree, hr, hy, hS, H => by
    refine ⟨fun h0 => (by rw [h0] at hr; cases hr), fun j hj => ?_⟩
    rcases Nat.decEq j i with hji | hji
    case isTrue => subst hji; exact hy.wpOp hi hS ⟨fun _ => hS, H⟩
    have hun := (mem_ready.1 hr).1
    have hjL : j ≠ L := not_L hw hun hj
    match fuel, H with
    | 0, H =>
      have hm := ready_mono hj hji
      rw [H.1] at hm
      cases hm
    | fuel + 1, H =>
      obtain ⟨hjun, oj, hoj, hall⟩ := mem_ready.1 hj
      have hnot : ∀ e ∈ oj.after, Region.binds md e = true → e.on ≠ i := fun e he hb heq => by
        have h1 := hall e he hb
        rw [heq] at h1
        cases hx : listed[i]? with
        | none => simp [hx] at h1
        | some b => simp [hx] at h1 hun; rw [hun] at h1; cases h1
      refine wpOp_mono (fun a' w' h3 => ?_) (wpOp_putIf hoj (hfree j oj hoj hji hjun hnot) (fun cs b => hsel i oi cs b hi) (fun cs b => hsel j oj cs b hoj) hQ hy (H.2 j (ready_mono hj hji)))
      obtain ⟨h3y, h3S, h3w⟩ := h3
      refine ⟨h3S, wpL_first hi hsel hQ hw fuel (listed.setIfInBounds j true) a' w' (fun k ok hk hki hku hno => ?_) (ready_mono hr (Ne.symm hji)) h3y (h3S hjL) ?_⟩
      · refine hfree k ok hk hki ?_ hno
        rcases Nat.decEq j k with hjk | hjk
        case isTrue => subst hjk; exact hjun
        rw [getD_set_ne true hjk] at hku
        exact hku
      · rw [Array.setIfInBounds_comm _ _ hji]
        exact h3w

/-- L waits for i: as a Bool of the region's text. -/
def waitsOn (md : Region.Mode) (ops : Array Oper) (L i : Nat) : Bool := match ops[L]? with
  | some o => o.after.any fun e => Region.binds md e && e.on == i
  | none => true

theorem waitsOn_spec {i : Nat} (h : waitsOn md ops L i = true) : ∀ o, ops[L]? = some o → ∃ e ∈ o.after, Region.binds md e = true ∧ e.on = i := by
  intro o ho
  simp only [waitsOn, ho] at h
  obtain ⟨e, he, hb⟩ := Array.any_eq_true'.1 h
  simp only [Bool.and_eq_true, beq_iff_eq] at hb
  exact ⟨e, he, hb.1, hb.2⟩

/-- Take number i first. -/
theorem wpL_take {i : Nat} {oi : Oper} {v : Value} {fuel : Nat} {listed : Array Bool} {a : Act} {w : World} (hi : ops[i]? = some oi)
    (hs : Region.noSelect ops = true) (hf : Region.free md ops listed i = true) (hr : (Region.ready md ops listed).contains i = true) (hw : waitsOn md ops L i = true)
    (hQ : ∀ c a w, Q (.panic c) (a.put oi.dst v) w → Q (.panic c) a w) (hwant : Region.wanted oi (yielded ops a.tmps) = true) (hy : ∀ w, S w → (execOp a.eval oi).run P w = .ok (.value v) w) (hS : S w)
    (h : wpL P md ops Q S L fuel (listed.setIfInBounds i true) (a.put oi.dst v) w) : wpL P md ops Q S L (fuel + 1) listed a w :=
  wpL_first hi (Region.noSelect_spec hs) hQ (waitsOn_spec hw) fuel listed a w (Region.free_spec hi hf) (by simpa using hr) (.inl ⟨hwant, hy⟩) hS h

/-- As wpL_first, where L waits for i by way of others: U holds i, L and what waits for i. -/
theorem wpU_first {i : Nat} {oi : Oper} {v : Value} {U : List Nat} (hi : ops[i]? = some oi) (hsel : ∀ (j : Nat) (o : Oper) cs b, ops[j]? = some o → o.op ≠ .select cs b)
    (hQ : ∀ c a w, Q (.panic c) (a.put oi.dst v) w → Q (.panic c) a w) (hL : L ∈ U) (hU : ∀ j ∈ U, j ≠ i → ∀ o, ops[j]? = some o → ∃ e ∈ o.after, Region.binds md e = true ∧ e.on ∈ U) :
    ∀ (fuel : Nat) (listed : Array Bool) (a : Act) (w : World), (∀ k ∈ U, listed.getD k true = false) →
      (∀ j oj, ops[j]? = some oj → j ≠ i → listed.getD j true = false → (∀ e ∈ oj.after, Region.binds md e = true → e.on ≠ i) → oi.apart ops oj = true) →
      i ∈ Region.ready md ops listed → YieldsIf P ops S oi v a → S w →
      wpL P md ops Q S L fuel (listed.setIfInBounds i true) (a.put oi.dst v) w → wpL P md ops Q S L (fuel + 1) listed a w
  | fuel, listed, a, w, hun', hfree, hr, hy, hS, H => by
    refine ⟨fun h0 => (by rw [h0] at hr; cases hr), fun j hj => ?_⟩
    rcases Nat.decEq j i with hji | hji
    case isTrue => subst hji; exact hy.wpOp hi hS ⟨fun _ => hS, H⟩
    have hun := (mem_ready.1 hr).1
    have hjU : j ∉ U := fun hjU => by
      obtain ⟨_, o, ho, hall⟩ := mem_ready.1 hj
      obtain ⟨e, he, hb, hon⟩ := hU j hjU hji o ho
      have h1 := hall e he hb
      have h2 := hun' e.on hon
      cases hx : listed[e.on]? with
      | none => simp [hx] at h1
      | some b => simp [hx] at h1 h2; rw [h2] at h1; cases h1
    have hjL : j ≠ L := fun e => hjU (e ▸ hL)
    match fuel, H with
    | 0, H =>
      have hm := ready_mono hj hji
      rw [H.1] at hm
      cases hm
    | fuel + 1, H =>
      obtain ⟨hjun, oj, hoj, hall⟩ := mem_ready.1 hj
      have hnot : ∀ e ∈ oj.after, Region.binds md e = true → e.on ≠ i := fun e he hb heq => by
        have h1 := hall e he hb
        rw [heq] at h1
        cases hx : listed[i]? with
        | none => simp [hx] at h1
        | some b => simp [hx] at h1 hun; rw [hun] at h1; cases h1
      refine wpOp_mono (fun a' w' h3 => ?_) (wpOp_putIf hoj (hfree j oj hoj hji hjun hnot) (fun cs b => hsel i oi cs b hi) (fun cs b => hsel j oj cs b hoj) hQ hy (H.2 j (ready_mono hj hji)))
      obtain ⟨h3y, h3S, h3w⟩ := h3
      refine ⟨h3S, wpU_first hi hsel hQ hL hU fuel (listed.setIfInBounds j true) a' w' (fun k hk => ?_) (fun k ok hk hki hku hno => ?_) (ready_mono hr (Ne.symm hji)) h3y (h3S hjL) ?_⟩
      · rw [getD_set_ne true (fun e : j = k => hjU (e ▸ hk))]
        exact hun' k hk
      · refine hfree k ok hk hki ?_ hno
        rcases Nat.decEq j k with hjk | hjk
        case isTrue => subst hjk; exact hjun
        rw [getD_set_ne true hjk] at hku
        exact hku
      · rw [Array.setIfInBounds_comm _ _ hji]
        exact h3w

/-- i and what waits for it, by way of others too. -/
def ups (md : Region.Mode) (ops : Array Oper) (i : Nat) : List Nat := (List.range ops.size).foldl (fun U j => if j == i || (match ops[j]? with | some o => o.after.any fun e => Region.binds md e && U.contains e.on | none => false) then j :: U else U) []

def upsOk (md : Region.Mode) (ops : Array Oper) (listed : Array Bool) (L i : Nat) : Bool :=
  (ups md ops i).contains L && ((ups md ops i).all fun k => listed.getD k true == false) && ((ups md ops i).all fun j => j == i || (match ops[j]? with | some o => o.after.any fun e => Region.binds md e && (ups md ops i).contains e.on | none => true))

/-- Take number i first, where L waits for i by way of others. -/
theorem wpU_take {i : Nat} {oi : Oper} {v : Value} {fuel : Nat} {listed : Array Bool} {a : Act} {w : World} (hi : ops[i]? = some oi)
    (hs : Region.noSelect ops = true) (hf : Region.free md ops listed i = true) (hr : (Region.ready md ops listed).contains i = true) (hw : upsOk md ops listed L i = true)
    (hQ : ∀ c a w, Q (.panic c) (a.put oi.dst v) w → Q (.panic c) a w) (hwant : Region.wanted oi (yielded ops a.tmps) = true) (hy : ∀ w, S w → (execOp a.eval oi).run P w = .ok (.value v) w) (hS : S w)
    (h : wpL P md ops Q S L fuel (listed.setIfInBounds i true) (a.put oi.dst v) w) : wpL P md ops Q S L (fuel + 1) listed a w := by
  simp only [upsOk, Bool.and_eq_true, List.all_eq_true, Bool.or_eq_true, beq_iff_eq] at hw
  obtain ⟨⟨h1, h2⟩, h3⟩ := hw
  refine wpU_first (U := ups md ops i) hi (Region.noSelect_spec hs) hQ (by simpa using h1) (fun j hj hji o ho => ?_) fuel listed a w h2 (Region.free_spec hi hf) (by simpa using hr) (.inl ⟨hwant, hy⟩) hS h
  have h4 := (h3 j hj).resolve_left hji
  rw [ho] at h4
  obtain ⟨e, he, hb⟩ := Array.any_eq_true'.1 h4
  simp only [Bool.and_eq_true] at hb
  exact ⟨e, he, hb.1, by simpa using hb.2⟩

/-- One operation alone may come up. -/
theorem wpL_one {i : Nat} {o : Oper} {fuel : Nat} {listed : Array Bool} {a : Act} {w : World} (hr : Region.ready md ops listed = [i]) (ho : ops[i]? = some o)
    (h : ∀ K' : Act → World → Prop, RowKit.Hid (∀ a w, (i ≠ L → S w) → wpL P md ops Q S L fuel (listed.setIfInBounds i true) a w → K' a w) → if Region.wanted o (yielded ops a.tmps) = true then Oper.wp P o a w K' Q else K' (a.put o.dst undef) w) :
    wpL P md ops Q S L (fuel + 1) listed a w :=
  ⟨fun h0 => (by rw [hr] at h0; cases h0), fun j hj => by
    rw [hr] at hj
    obtain rfl := List.mem_singleton.1 hj
    exact wpOp_step ho (fun K' hK => h K' (fun a w h1 h2 => hK a w ⟨h1, h2⟩))⟩

theorem wpL_done {listed : Array Bool} {a : Act} {w : World} (hr : Region.ready md ops listed = []) (h : Q .normal a w) :
    ∀ fuel, wpL P md ops Q S L fuel listed a w
  | 0 => ⟨hr, h⟩
  | _ + 1 => ⟨fun _ => h, by rw [hr]; simp⟩

theorem wp_region_L (S : World → Prop) (L N : Nat) {id : Nat} {a : Act} {w : World} (hm : P.follows .mixedOrders = true) (hN : ops.size = N)
    (h : wpL P .any ops Q S L N (Array.replicate N false) a w.drew) : (Code.region id ops true).wp P Q a w :=
  wp_region_any hm (by subst hN; exact wpAny_of_L _ _ _ _ h)
end
end Go.Proofs.YbulkcoecFmt
