import Derived.Test.YbulkcoguDoorLast
/-
  A region that draws its order, in which several operations each make one new block, whatever the order: which block is whose is told by letters.
-/
namespace Go.Proofs.YbulkcoguDoor
open Go.RowKit Go.Deep

structure Maker where
  idx : Nat
  dst : Nat
  val : Nat → Value
  obj : Obj

def lst (N : Nat) (rem : List Nat) : Array Bool := (Array.range N).map (fun k => !(rem.contains k))

def subs : List Nat → List (List Nat)
  | [] => [[]]
  | x :: l => (subs l).map (fun r => x :: r) ++ subs l

theorem subs_erase : ∀ (l : List Nat) {R : List Nat} {i : Nat}, R ∈ subs l → i ∈ R → R.erase i ∈ subs l
  | [], R, i, h, hi => by
    simp [subs] at h
    subst h
    cases hi
  | x :: l, R, i, h, hi => by
    simp only [subs, List.mem_append, List.mem_map] at h ⊢
    rcases h with ⟨r, hr, rfl⟩ | h
    · by_cases hx : x = i
      · subst hx
        rw [List.erase_cons_head]
        exact .inr hr
      · rw [List.erase_cons_tail (by simpa using hx)]
        refine .inl ⟨r.erase i, subs_erase l hr ?_, rfl⟩
        rcases List.mem_cons.1 hi with h | h
        · exact absurd h.symm hx
        · exact h
    · exact .inr (subs_erase l h hi)

theorem subs_mem : ∀ (l : List Nat) {R : List Nat} {i : Nat}, R ∈ subs l → i ∈ R → i ∈ l
  | [], R, i, h, hi => by
    simp [subs] at h
    subst h
    cases hi
  | x :: l, R, i, h, hi => by
    simp only [subs, List.mem_append, List.mem_map] at h
    rcases h with ⟨r, hr, rfl⟩ | h
    · rcases List.mem_cons.1 hi with h | h
      · simp [h]
      · exact List.mem_cons_of_mem _ (subs_mem l hr h)
    · exact List.mem_cons_of_mem _ (subs_mem l h hi)

theorem subs_nodup : ∀ (l : List Nat) {R : List Nat}, l.Nodup → R ∈ subs l → R.Nodup
  | [], R, _, h => by
    simp [subs] at h
    subst h
    exact List.nodup_nil
  | x :: l, R, hl, h => by
    simp only [subs, List.mem_append, List.mem_map] at h
    have hc := List.nodup_cons.1 hl
    rcases h with ⟨r, hr, rfl⟩ | h
    · exact List.nodup_cons.2 ⟨fun hx => hc.1 (subs_mem l hr hx), subs_nodup l hc.2 hr⟩
    · exact subs_nodup l hc.2 h

theorem subs_self : ∀ (l : List Nat), l ∈ subs l
  | [] => by simp [subs]
  | x :: l => by simp only [subs, List.mem_append, List.mem_map]; exact .inl ⟨l, subs_self l, rfl⟩

theorem lst_set {N : Nat} {rem : List Nat} {i : Nat} (hn : rem.Nodup) (hi : i < N) : (lst N rem).setIfInBounds i true = lst N (rem.erase i) := by
  apply Array.ext_getElem?
  intro k
  rw [Array.getElem?_setIfInBounds]
  simp only [lst, Array.getElem?_map, Array.getElem?_range, Array.size_map, Array.size_range]
  by_cases hk : i = k
  · subst hk
    rw [if_pos rfl, if_pos hi, if_pos hi]
    have : (rem.erase i).contains i = false := by simpa using (List.Nodup.not_mem_erase hn)
    simp only [Option.map_some, this, Bool.not_false]
  · rw [if_neg hk]
    split
    · have : (rem.erase i).contains k = rem.contains k := by
        rw [Bool.eq_iff_iff]
        simp only [List.contains_iff_mem]
        exact List.mem_erase_of_ne (fun e => hk e.symm)
      simp only [Option.map_some, this]
    · rfl

theorem makers_L {P : Program} {ops : Array Oper} {Q : Exit → Act → World → Prop} {S : World → Prop} {L : Nat} (N : Nat) (mk : List Maker) (tail : List Nat) (hS : ∀ w, S w)
    (hchk : ((subs (mk.map (·.idx))).all fun R => R.isEmpty || (Region.ready .any ops (lst N (R ++ tail)) == R)) = true) (hN : ∀ m ∈ mk, m.idx < N) (hnd : (mk.map (·.idx) ++ tail).Nodup)
    (w0 : World) (Ok : Act → Prop)
    (hop : ∀ m ∈ mk, ∃ o, ops[m.idx]? = some o ∧ o.guard = none ∧ o.dst = some m.dst ∧ ∀ a w, Ok a → (execOp a.eval o).run P w = .ok (.value (m.val w.heap.size)) (w.alloc m.obj))
    (hOk : ∀ m ∈ mk, ∀ a v, Ok a → Ok (a.put (some m.dst) v)) (hsz : ∀ a, Ok a → ∀ m ∈ mk, m.dst < a.tmps.size) (hdd : ∀ m ∈ mk, ∀ m' ∈ mk, m.dst = m'.dst → m.idx = m'.idx)
    (hidx : ∀ m ∈ mk, ∀ m' ∈ mk, m.idx = m'.idx → m = m')
    (fin : ∀ a w, Ok a → Below w0.heap.size w0 w → (∀ m ∈ mk, ∃ b, a.tmps[m.dst]? = some (m.val b) ∧ w.heap[b]? = some m.obj ∧ w0.heap.size ≤ b) → wpL P .any ops Q S L tail.length (lst N tail) a w) :
    ∀ (n : Nat) (R : List Nat), R.length = n → R ∈ subs (mk.map (·.idx)) → ∀ a w, Ok a → Below w0.heap.size w0 w → (∀ m ∈ mk, m.idx ∉ R → ∃ b, a.tmps[m.dst]? = some (m.val b) ∧ w.heap[b]? = some m.obj ∧ w0.heap.size ≤ b) →
      wpL P .any ops Q S L (n + tail.length) (lst N (R ++ tail)) a w
  | 0, R, hl, hR, a, w, ha, hb, hd => by
    obtain rfl := List.eq_nil_of_length_eq_zero hl
    rw [Nat.zero_add]
    exact fin a w ha hb (fun m hm => hd m hm (by simp))
  | n + 1, R, hl, hR, a, w, ha, hb, hd => by
    have hne : R ≠ [] := by intro e; subst e; cases hl
    have hready : Region.ready .any ops (lst N (R ++ tail)) = R := by
      have := List.all_eq_true.1 hchk R hR
      simp only [Bool.or_eq_true, List.isEmpty_iff, beq_iff_eq] at this
      exact this.resolve_left hne
    have hRn : R.Nodup := subs_nodup _ (List.nodup_append.1 hnd).1 hR
    have hRt : (R ++ tail).Nodup := by
      rw [List.nodup_append] at hnd ⊢
      exact ⟨hRn, hnd.2.1, fun x hx y hy => hnd.2.2 x (subs_mem _ hR hx) y hy⟩
    rw [show n + 1 + tail.length = (n + tail.length) + 1 by omega]
    refine ⟨fun h0 => absurd (hready.symm.trans h0) hne, fun i hi => ?_⟩
    rw [hready] at hi
    obtain ⟨m, hm, hmi⟩ := List.mem_map.1 (subs_mem _ hR hi)
    obtain ⟨o, ho, hg, hdst, hrun⟩ := hop m hm
    subst hmi
    refine wpOp_step ho (fun K' hK => ?_)
    rw [if_pos (by simp [Region.wanted, hg])]
    unfold Oper.wp
    rw [hrun a w ha, Oper.upon_value, hdst]
    refine hK _ _ ⟨fun _ => hS _, ?_⟩
    rw [lst_set hRt (hN m hm), List.erase_append_left _ hi]
    refine makers_L N mk tail hS hchk hN hnd w0 Ok hop hOk hsz hdd hidx fin n (R.erase m.idx) (by rw [List.length_erase_of_mem hi]; omega) (subs_erase _ hR hi) _ _ (hOk m hm a _ ha) (hb.alloc hb.size _) (fun m' hm' hni => ?_)
    by_cases hmm : m'.idx = m.idx
    · obtain rfl := hidx m' hm' m hm hmm
      refine ⟨w.heap.size, ?_, heap_alloc_new w _, hb.size⟩
      show (a.tmps.setIfInBounds m'.dst _)[m'.dst]? = _
      rw [Array.getElem?_setIfInBounds_self_of_lt (hsz a ha m' hm')]
    · obtain ⟨b, h1, h2, h3⟩ := hd m' hm' (fun hin => hni ((List.mem_erase_of_ne hmm).2 hin))
      refine ⟨b, ?_, (Below.heap_alloc _ _ _ (Array.getElem?_eq_some_iff.1 h2).1).trans h2, h3⟩
      show (a.tmps.setIfInBounds m.dst _)[m'.dst]? = _
      rw [Array.getElem?_setIfInBounds_ne (fun e => hmm ((hdd m hm m' hm' e).symm))]
      exact h1

theorem makers_go {P : Program} {ops : Array Oper} {Q : Exit → Act → World → Prop} {S : World → Prop} {L : Nat} {listed : Array Bool} {a : Act} {w0 : World} {fuel : Nat} (N : Nat) (mk : List Maker) (tail : List Nat) (hS : ∀ w, S w)
    (hl : listed = lst N (mk.map (·.idx) ++ tail)) (hf : fuel = mk.length + tail.length)
    (hchk : ((subs (mk.map (·.idx))).all fun R => R.isEmpty || (Region.ready .any ops (lst N (R ++ tail)) == R)) = true) (hN : ∀ m ∈ mk, m.idx < N) (hnd : (mk.map (·.idx) ++ tail).Nodup)
    (Ok : Act → Prop) (ha : Ok a)
    (hop : ∀ m ∈ mk, ∃ o, ops[m.idx]? = some o ∧ o.guard = none ∧ o.dst = some m.dst ∧ ∀ a w, Ok a → (execOp a.eval o).run P w = .ok (.value (m.val w.heap.size)) (w.alloc m.obj))
    (hOk : ∀ m ∈ mk, ∀ a v, Ok a → Ok (a.put (some m.dst) v)) (hsz : ∀ a, Ok a → ∀ m ∈ mk, m.dst < a.tmps.size) (hdd : ∀ m ∈ mk, ∀ m' ∈ mk, m.dst = m'.dst → m.idx = m'.idx)
    (hidx : ∀ m ∈ mk, ∀ m' ∈ mk, m.idx = m'.idx → m = m')
    (fin : ∀ a w, Ok a → Below w0.heap.size w0 w → (∀ m ∈ mk, ∃ b, a.tmps[m.dst]? = some (m.val b) ∧ w.heap[b]? = some m.obj ∧ w0.heap.size ≤ b) → wpL P .any ops Q S L tail.length (lst N tail) a w) :
    wpL P .any ops Q S L fuel listed a w0 := by
  subst hl hf
  refine makers_L N mk tail hS hchk hN hnd w0 Ok hop hOk hsz hdd hidx fin mk.length _ (by simp) (subs_self _) a w0 ha (Below.refl _ _) (fun m hm hni => absurd (List.mem_map.2 ⟨m, hm, rfl⟩) hni)

theorem eval_tmp {a : Act} {k : Nat} {v : Value} (h : a.tmps[k]? = some v) : a.eval (.tmp k) = v := by
  simp [Act.eval, Array.getD_eq_getD_getElem?, h]
end Go.Proofs.YbulkcoguDoor
