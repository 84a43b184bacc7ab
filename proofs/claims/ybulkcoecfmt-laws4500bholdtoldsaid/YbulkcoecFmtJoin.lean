import Derived.Test.YbulkcoecFmtBase
namespace Go.Proofs.YbulkcoecFmt
open Go.RowKit Go.Deep
set_option linter.unusedVariables false
set_option linter.unusedSimpArgs false

/-- What a row of errors holds. -/
def Errs (xs : List Value) : Prop := ∀ v ∈ xs, ∃ a, v = .iface 136 (.pointer (some a))

set_option maxRecDepth 100000 in
set_option maxHeartbeats 4000000 in
/-- errors.Join of errors that are not nil. -/
theorem join_any (B n : Nat) (ve : Value) (xs : List Value) (w : World) (hr : w.ownsRow B 39 1 ve n xs) (hx : Errs xs) (hn : n ≤ 900) (hB : B ≤ w.heap.size) :
    Calls Ybaf.prog 51 #[ve] w fun e w' => Stay (fun _ => False) w w' ∧ ((n = 0 ∧ e = .returned .nilIface) ∨ (0 < n ∧ ∃ a, e = .returned (.iface 161 (.pointer (some a))))) := by
  rcases Nat.eq_zero_or_pos n with h0 | hpos
  · subst h0
    obtain ⟨a, c, hv⟩ : ∃ a c, ve = .slice a 0 c := by
      rcases hr.2 with ⟨e, _⟩ | ⟨g, cap, cur, e, _⟩
      · exact ⟨_, _, e⟩
      · exact ⟨_, _, e⟩
    subst hv
    clear hr hx
    go_enter Ybaf.func51, Ybaf.ntmps51
    go_wp2
    go_loopw [11, 3] (fun q c wr => q = .int .i64 0 ∧ c = .int .i64 0 ∧ wr = w) (fun _ _ _ => 0)
    case atStart => exact ⟨rfl, rfl, rfl⟩
    case round =>
      obtain ⟨rfl, rfl, rfl⟩ := hrel
      go_wp2
      go_ret
      exact ⟨Stay.refl _ _, .inl ⟨by simp, rfl⟩⟩
  · obtain ⟨g, cap, hv, hBg, hgl⟩ := hr.form hpos
    subst hv
    have hcell : ∀ W, Stay (fun _ => False) w W → ∀ j, j < n → ∃ a, W.cell? ⟨g, j, none⟩ = some (.iface 136 (.pointer (some a))) ∧ xs[j]? = some (.iface 136 (.pointer (some a))) := fun W hW j hj => by
      have hl : xs.length = n := by have := hr.1; omega
      have hjx : j < xs.length := by omega
      obtain ⟨a, ha⟩ := hx xs[j] (List.getElem_mem hjx)
      have hxj : xs[j]? = some (.iface 136 (.pointer (some a))) := by rw [List.getElem?_eq_getElem hjx, ha]
      refine ⟨a, ?_, hxj⟩
      have hc := hr.cells (g := g) rfl j _ hxj
      rw [Addr.add_lit, Nat.zero_add] at hc
      exact (hW.cell (a := ⟨g, j, none⟩) hgl (fun e => e)).trans hc
    have HC : Hid (∀ W, Stay (fun _ => False) w W → ∀ j, j < n → ∃ a, W.cell? ⟨g, j, none⟩ = some (.iface 136 (.pointer (some a))) ∧ xs[j]? = some (.iface 136 (.pointer (some a)))) := hcell
    obtain ⟨i0, hi0, hz0, hz1, hz2⟩ := info_parts Ybaf.info39
    have HI : Hid (Ybaf.prog.info? 39 = some i0 ∧ i0.zero = some .nilIface ∧ i0.size = 1 ∧ i0.bytes = 16) := ⟨hi0, hz0, hz1, hz2⟩
    have HL : Hid (xs.length = n) := by show _ = _; have := hr.1; omega
    clear hr hx hcell hi0 hz0 hz1 hz2 hBg
    go_enter Ybaf.func51, Ybaf.ntmps51
    go_wp2
    go_loopw [11, 3] (fun q c wr => ∃ j : Nat, j ≤ n ∧ q = .int .i64 j ∧ c = .int .i64 j ∧ wr = w) (fun q _ _ => n - (intOf q).toNat)
    case atStart => exact ⟨0, Nat.zero_le _, rfl, rfl, rfl⟩
    case round =>
      obtain ⟨j, hj, rfl, rfl, hwr⟩ := hrel
      have hwr' := hwr.symm
      clear hwr
      subst hwr'
      by_cases hlt : j < n
      · obtain ⟨a, hc, _⟩ := HC.out _ (Stay.refl _ _) j hlt
        go_wp2
        go_roundw
        case rel => exact ⟨j + 1, by omega, by go_num, by go_num, trivial⟩
        case measure => simp [intOf]; omega
      · obtain rfl : j = n := by omega
        have m132 : ∀ W : World, (Instr.makeSlice 132 (.int .i64 0) (.int .i64 (j : Int))).run Ybaf.prog W = .ok (.slice (some ⟨W.heap.size, 0, none⟩) 0 j) (W.alloc (.cells (madeCells #[.nilIface] j) 39)) := fun W => by
          have hr := run_make (P := Ybaf.prog) W 132 39 i0 .nilIface Ybaf.underlying132 HI.out.1 HI.out.2.1 .i64 .i64 0 j (by omega) (by omega) (by rw [HI.out.2.2.2]; omega) (by omega)
          simp only [Int.toNat_natCast, HI.out.2.2.1, Nat.mul_one] at hr
          exact hr
        have hj0 : ((j : Int) == 0) = false := by simp; omega
        go_wp2
        obtain ⟨W1, hW1⟩ : ∃ W, W = (w.alloc (.cells (madeCells #[.nilIface] j) 39)).alloc (.cells #[.slice (some ⟨w.heap.size, 0, none⟩) 0 j] 163) := ⟨_, rfl⟩
        obtain ⟨J, hJ⟩ : ∃ J, w.heap.size + 1 = J := ⟨_, rfl⟩
        have hs1 : Stay (fun _ => False) w W1 := by rw [hW1]; exact (Stay.alloc _ _ _).trans (Stay.alloc _ _ _)
        have hJ1 : W1.heap[J]? = some (.cells #[.slice (some ⟨w.heap.size, 0, none⟩) 0 j] 163 (0, 0)) := by
          rw [hW1, ← hJ]
          have := heap_alloc_new (w.alloc (.cells (madeCells #[.nilIface] j) 39)) (.cells #[.slice (some ⟨w.heap.size, 0, none⟩) 0 j] 163)
          rw [World.size_alloc] at this
          exact this
        have hr1 : W1.ownsRow w.heap.size 39 1 (.slice (some ⟨w.heap.size, 0, none⟩) 0 j) 0 [] := by
          rw [hW1]
          exact (World.ownsRow_made w (madeCells #[.nilIface] j) j (Nat.le_refl _) (by unfold maxLen; omega) (by rw [size_madeCells]; omega)).alloc _
        rw [← hW1, hJ]
        have HS1 : Hid (Stay (fun _ => False) w W1 ∧ W1.heap[J]? = some (.cells #[.slice (some ⟨w.heap.size, 0, none⟩) 0 j] 163 (0, 0)) ∧ W1.ownsRow w.heap.size 39 1 (.slice (some ⟨w.heap.size, 0, none⟩) 0 j) 0 []) := ⟨hs1, hJ1, hr1⟩
        have HJ : Hid (w.heap.size + 1 = J) := hJ
        clear hW1 hs1 hJ1 hr1 hJ m132
        go_loopw [28] (fun q wr => ∃ (i : Nat) (v : Value), i ≤ j ∧ q = .int .i64 i ∧ Stay (fun _ => False) w wr ∧ wr.heap[J]? = some (.cells #[v] 163 (0, 0)) ∧ wr.ownsRow w.heap.size 39 1 v i (xs.take i) ∧ v.ownBlock ≠ some J) (fun q _ => j - (intOf q).toNat)
        case atStart => exact ⟨0, _, Nat.zero_le _, rfl, HS1.out.1, HS1.out.2.1, HS1.out.2.2, fun e => by have h1 := Option.some.inj e; have h2 := HJ.out; have h3 : w.heap.size = J := h1; omega⟩
        case round =>
          obtain ⟨i, v, hi, rfl, hs, hv, hr, hvn⟩ := hrel
          by_cases hlt2 : i < j
          · obtain ⟨a, hc, hxi⟩ := HC.out _ hs i hlt2
            have cv := cell_in hv (o := 0) (u := v) rfl
            have HQ : Hid (Stay (fun _ => False) w wr ∧ wr.heap[J]? = some (.cells #[v] 163 (0, 0)) ∧ wr.ownsRow w.heap.size 39 1 v i (xs.take i) ∧ v.ownBlock ≠ some J ∧ xs[i]? = some (.iface 136 (.pointer (some a)))) := ⟨hs, hv, hr, hvn, hxi⟩
            have HAP : Hid (∀ (o : Obj) (w2 : World), (wr.alloc o).grownBy w2 v.ownBlock → w2.heap[J]? = some (.cells #[v] 163 (0, 0)) ∧ Stay (fun _ => False) w w2) := fun o w2 hg => by
              have h1 := Stay.grown (S := fun b => v.ownBlock = some b) hg (fun g e => e)
              refine ⟨h1.at_ ((Stay.alloc (fun _ => False) wr o).at_ hv (fun e => e)) hvn, (hs.trans (Stay.alloc _ wr o)).trans' h1 (fun b hb e => ?_)⟩
              have := (hr.lt b e).1
              omega
            have hle : w.heap.size ≤ wr.heap.size := hs.size
            have hJl : J < wr.heap.size := lt_of hv
            clear hs hv hr hvn hxi
            go_wp2_with (first | (at_builtin; refine wpList_append_lies _ (by rfl) _ _ _ (by rfl) w.heap.size 39 i0 _ 1 16 Ybaf.underlying132 HI.out.1 HI.out.2.1 HI.out.2.2.1 HI.out.2.2.2 rfl (by omega) v i (xs.take i) (by rfl) (HQ.out.2.2.1.alloc _) ⟨wr.heap.size, 0, none⟩ 1 1 [.iface 136 (.pointer (some a))] (by rfl) (by rfl) (World.news_of_block (cs := #[.iface 136 (.pointer (some a))]) (t := 39) (fr := (0, 0)) (heap_alloc_new wr _)) (by simp [Value.oneCell']) (by omega) (bound_max (by omega)) (by omega) (by rw [World.size_alloc]; omega) (wr.heap.size + 1) (by simp) ?_; intro gg cp w2 hown hgrow hat hlt9; have HP : Hid (w2.ownsRow w.heap.size 39 1 (.slice (some ⟨gg, 0, none⟩) (i + 1) cp) (i + 1) (xs.take i ++ [.iface 136 (.pointer (some a))]) ∧ (v.ownBlock = some gg ∨ gg = wr.heap.size + 1) ∧ w2.heap[J]? = some (.cells #[v] 163 (0, 0)) ∧ Stay (fun _ => False) w w2) := ⟨hown, hat, HAP.out _ _ hgrow⟩; have c2 := cell_in (HAP.out _ _ hgrow).1 (o := 0) (u := v) rfl; have g2 := free_in (o := 0) (HAP.out _ _ hgrow).1; clear hown hgrow hat hlt9))
            go_roundw
            case rel =>
              obtain ⟨p1, p2, p3, p4⟩ := HP.out
              have hgJ : gg ≠ J := by
                rintro rfl
                rcases p2 with e | e
                · exact HQ.out.2.2.2.1 e
                · omega
              have h1 : Stay (fun b => b = J) w2 (w2.setCell ⟨J, 0, none⟩ (.slice (some ⟨gg, 0, none⟩) (i + 1) cp)) := Stay.set _ _ _ _ rfl
              refine ⟨i + 1, .slice (some ⟨gg, 0, none⟩) (i + 1) cp, by omega, by go_num, p4.trans' h1 (fun b hb e => by have := HJ.out; omega), ?_, ?_, fun e => hgJ (Option.some.inj e)⟩
              · rw [heap_setCell_same w2 J 0 _ 163 _ p3]; rfl
              · have h2 := h1.row p1 (fun g hg e => hgJ (by rw [← e]; exact Option.some.inj hg))
                have h3 : xs.take (i + 1) = xs.take i ++ [.iface 136 (.pointer (some a))] := by
                  have hil : i < xs.length := by rw [HL.out]; exact hlt2
                  rw [List.take_succ_eq_append_getElem hil]
                  have h4 := HQ.out.2.2.2.2
                  rw [List.getElem?_eq_getElem hil] at h4
                  rw [Option.some.inj h4]
                rw [h3]
                exact h2
            case measure => simp [intOf]; omega
          · obtain rfl : i = j := by omega
            have HQ : Hid (Stay (fun _ => False) w wr) := hs
            clear hs hv hr hvn
            go_wp2
            go_ret
            exact ⟨HQ.out, .inr ⟨hpos, _, rfl⟩⟩
end Go.Proofs.YbulkcoecFmt
