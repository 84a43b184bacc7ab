import Derived.Test.YbulkcoecFmtHBase
import Derived.Deep.RegionLaw
import Derived.Shelf.Spec.SlicesInsertGrow
namespace Go.Proofs.YbulkcoecFmt
open Go.RowKit Go.Deep
set_option linter.unusedVariables false
set_option linter.unusedSimpArgs false

theorem Ybaf.info71 : (Ybaf.prog.info? 71).map (fun i => (i.zero, i.size, i.bytes)) = some (some (.pointer none), 1, 8) := by kernel_rfl
theorem Ybaf.size71 : (Ybaf.prog.info? 71).map (·.size) = some 1 := by kernel_rfl
theorem sizeOf71 (w : World) : (Go.sizeOf 71).run Ybaf.prog w = .ok 1 w := by kernel_rfl

/-- The row's new block is the old one or a new one. -/
def Moved (w : World) (v v' : Value) : Prop := v'.ownBlock = v.ownBlock ∨ ∃ g, v'.ownBlock = some g ∧ w.heap.size ≤ g

theorem overlap_any (w : World) (vb g o la ca lb cb : Nat) (kA kB : Nat) (hne : vb ≠ g) (hsa : w.shape? vb = some (71, kA)) (hsb : w.shape? g = some (71, kB)) (hkB : kB ≠ 0) (hfa : w.frozen? ⟨vb, 0, none⟩ = false) (hfe : w.frozen? ⟨vb, kA, none⟩ = false) :
    (callFunc 130 #[.slice (some ⟨vb, 0, none⟩) la ca, .slice (some ⟨g, o, none⟩) lb cb]).run Ybaf.prog w = .ok (.value (.bool false)) w := by
  rw [run_callFunc_extern Ybaf.func130 (by kernel_rfl) (by kernel_rfl) (by kernel_rfl) (e := Extern.SlicesOverlaps.overlaps #[63, 63] #[4]) (by kernel_rfl),
    Lib.run_overlaps_apart w 63 4 71 Ybaf.underlying63 1 sizeOf71 ⟨vb, 0, none⟩ ⟨g, o, none⟩ la ca lb cb hne 71 71 kA kB hsa hsb hkB hfa hfe]
  rfl

set_option maxRecDepth 100000 in
set_option maxHeartbeats 4000000 in
/-- slices.Insert of one pointer at the end. -/
theorem insert_end {B : Nat} {v : Value} {l : List Nat} {w : World} (h : Row B v l w) (hB : B ≤ w.heap.size) (hn : l.length ≤ 900) (b vb : Nat) (hvb : w.heap[vb]? = some (.cells #[ptr b] 71 (0, 0))) :
    Calls Ybaf.prog 118 #[v, .int .i64 l.length, .slice (some ⟨vb, 0, none⟩) 1 1] w fun e w' =>
      ∃ v', e = .returned v' ∧ Row B v' (l ++ [b]) w' ∧ Stay (fun x => v.ownBlock = some x) w w' ∧ Moved w v v' := by
  obtain ⟨i0, hi0, hz0, hz1, hz2⟩ := info_parts Ybaf.info71
  obtain ⟨n, hnn⟩ : ∃ n, l.length = n := ⟨_, rfl⟩
  have hr : Hid (w.ownsRow B 71 1 v n (l.map ptr)) := by rw [← hnn]; exact h
  have hst : Hid (∀ g cap w', w'.ownsRow B 71 1 (.slice (some ⟨g, 0, none⟩) (n + 1) cap) (n + 1) (l.map ptr ++ [ptr b]) → w.grownBy w' v.ownBlock → (v.ownBlock = some g ∨ g = w.heap.size) →
      ∃ v', (Ending.returned (.slice (some ⟨g, 0, none⟩) (n + 1) cap)) = .returned v' ∧ Row B v' (l ++ [b]) w' ∧ Stay (fun x => v.ownBlock = some x) w w' ∧ Moved w v v') := by
    intro g cap w' h1 h2 h3
    refine ⟨_, rfl, ?_, Stay.grown h2 (fun g hg => hg), ?_⟩
    · unfold Row; simpa [hnn] using h1
    · rcases h3 with h3 | h3
      · exact .inl (by rw [h3]; rfl)
      · exact .inr ⟨g, rfl, by omega⟩
  have hnews : Hid (∀ (j : Nat) (u : Value), [ptr b][j]? = some u → w.cell? ((⟨vb, 0, none⟩ : Addr).add j) = some u) := fun j u hj => by
    cases j with
    | zero => simp at hj; subst hj; exact cell_in hvb (o := 0) rfl
    | succ j => simp at hj
  rw [hnn]
  rw [hnn] at hn
  have hI : Hid (Ybaf.prog.info? 71 = some i0 ∧ i0.zero = some (.pointer none) ∧ i0.size = 1 ∧ i0.bytes = 8) := ⟨hi0, hz0, hz1, hz2⟩
  have hv : Hid (∀ (i : Nat), i = n → (∃ p cap, v = .slice p n cap ∧ n ≤ cap)) := by
    intro i hi
    rcases h.parts with ⟨rfl, rfl⟩ | ⟨g, cap, cur, rfl, hg⟩
    · exact ⟨none, 0, by rw [← hnn]; rfl, by rw [← hnn]; exact Nat.le_refl _⟩
    · exact ⟨_, cap, by rw [← hnn], by rw [← hnn]; exact hg.le⟩
  clear hi0 hz0 hz1 hz2 hnn h
  obtain ⟨p, cap, rfl, hcap⟩ := hv.out n rfl
  by_cases hcn : cap = n
  · subst hcn
    go_enter Ybaf.func118, Ybaf.ntmps118
    go_wp2_with (at_builtin; refine wpList_append_lies _ (by rfl) _ _ _ (by rfl) B 71 i0 _ 1 8 Ybaf.underlying63 hI.out.1 hI.out.2.1 hI.out.2.2.1 hI.out.2.2.2 rfl (by omega) _ _ (l.map ptr) (by rfl) hr.out ⟨vb, 0, none⟩ 1 1 [ptr b] (by rfl) (by rfl) hnews.out (by simp [Value.oneCell']) (by omega) (bound_max (by omega)) (by omega) hB w.heap.size rfl ?_; intro gg cp w2 hown hgrow hat hlt; have hP : Hid _ := hst.out gg cp w2 hown hgrow hat; clear hown hgrow hat hlt)
    go_ret
    exact hP.out
  · have hcn2 : n < cap := by omega
    go_enter Ybaf.func118, Ybaf.ntmps118
    go_wp2_with (at_builtin; refine wpList_append_lies _ (by rfl) _ _ _ (by rfl) B 71 i0 _ 1 8 Ybaf.underlying63 hI.out.1 hI.out.2.1 hI.out.2.2.1 hI.out.2.2.2 rfl (by omega) _ _ (l.map ptr) (by rfl) hr.out ⟨vb, 0, none⟩ 1 1 [ptr b] (by rfl) (by rfl) hnews.out (by simp [Value.oneCell']) (by omega) (bound_max (by omega)) (by omega) hB w.heap.size rfl ?_; intro gg cp w2 hown hgrow hat hlt; have hP : Hid _ := hst.out gg cp w2 hown hgrow hat; clear hown hgrow hat hlt)
    go_ret
    exact hP.out
end Go.Proofs.YbulkcoecFmt
