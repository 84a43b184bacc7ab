import Derived.Test.YbulkcoecFmtHDelete
namespace Go.Proofs.YbulkcoecFmt
open Go.RowKit Go.Deep
set_option linter.unusedVariables false
set_option linter.unusedSimpArgs false

set_option maxRecDepth 100000 in
set_option maxHeartbeats 16000000 in
/-- DeleteFunc over a row that is not nil. -/
theorem delete_any {X : Pc} {bl ba bw bt : Nat} {y : Int} {g cap : Nat} {vt : Value} {l : List Nat} {w0 W : World} (h : Df X bl ba bw bt y g cap vt [] l w0 W) (hn : l.length ≤ 900) (hcap : l.length ≤ cap) (hcm : cap ≤ 9223372036854775807) (hp : ∀ b, b ∈ l → X.ps b) :
    Calls Ybaf.prog 119 #[.slice (some ⟨g, 0, none⟩) l.length cap, .func (.func 120) #[] #[ptr bw, ptr bt]] W fun e w' =>
      e = .returned (.slice (some ⟨g, 0, none⟩) (l.filter (fun b => !pk X y b)).length cap) ∧ ∃ vt', Df X bl ba bw bt y g cap vt' (l.filter (pk X y)) (l.filter (fun b => !pk X y b)) w0 w' := by
  have hix := index_any h hn hp
  obtain ⟨n, hnn⟩ : ∃ n, l.length = n := ⟨_, rfl⟩
  obtain ⟨L1, hL1⟩ : ∃ L, L = l.filter (pk X y) := ⟨_, rfl⟩
  obtain ⟨L2, hL2⟩ : ∃ L, L = l.filter (fun b => !pk X y b) := ⟨_, rfl⟩
  rw [← hL1, ← hL2]
  replace hL1 : Hid (L1 = l.filter (pk X y)) := hL1
  replace hL2 : Hid (L2 = l.filter (fun b => !pk X y b)) := hL2
  replace hp : Hid (∀ t, t < n → X.ps l[t]!) := fun t ht => hp _ (by rw [getElem!_pos l t (by omega)]; exact List.getElem_mem _)
  rw [hnn] at hn hcap hix
  rw [hnn]
  replace hnn : Hid (l.length = n) := hnn
  replace hix : Hid _ := hix
  clear h
  go_enter Ybaf.func119, Ybaf.ntmps119
  go_wp2_with fail
  refine Calls.mono hix.out ?_
  rintro e w1 (⟨i, hi, q1, q2, rfl, vt1, hd⟩ | ⟨q2, rfl, vt1, hd⟩)
  · have hz : ((i : Int) == -1) = false := by rw [beq_eq_false_iff_ne]; omega
    obtain ⟨fn1, fn2⟩ := filter_none X y l i (by rw [hnn.out]; omega) q2
    have hl1 : (l.take (i + 1)).filter (pk X y) = [l[i]!] := by
      rw [take_snoc l i (by rw [hnn.out]; exact hi), List.filter_append, fn1, List.filter_cons, q1]; rfl
    have hl2 : (l.take (i + 1)).filter (fun b => !pk X y b) = l.take i := by
      rw [take_snoc l i (by rw [hnn.out]; exact hi), List.filter_append, fn2, List.filter_cons, q1]; simp
    replace hl1 : Hid ((l.take (i + 1)).filter (pk X y) = [l[i]!]) := hl1
    replace hl2 : Hid ((l.take (i + 1)).filter (fun b => !pk X y b) = l.take i) := hl2
    replace hd : Hid (Df X bl ba bw bt y g cap vt1 [l[i]!] l w0 w1) := hd
    clear q1 q2 fn1 fn2
    go_wp2_with fail
    go_loopw [5, 6] (fun va vb wr => ∃ (a j : Nat) (lc : List Nat) (vt : Value), va = .int .i64 a ∧ vb = .int .i64 j ∧ a < j ∧ j ≤ n ∧ lc.length = n ∧ Hid (lc.take a = (l.take j).filter (fun b => !pk X y b)) ∧ Hid (∀ t, j ≤ t → t < n → lc[t]! = l[t]!) ∧ Df X bl ba bw bt y g cap vt ((l.take j).filter (pk X y)) lc w0 wr) (fun _ vb _ => n - (intOf vb).toNat)
    case atStart => exact ⟨i, i + 1, l, vt1, rfl, by go_num, by omega, by omega, hnn.out, hl2.out.symm, fun t _ _ => rfl, by rw [hl1.out]; exact hd.out⟩
    case round =>
      obtain ⟨a, j, lc, vt, rfl, rfl, haj, hjn, hlc, hk1, hk2, hdf⟩ := hrel
      by_cases hj : j < n
      · have hll : ((l.take j).filter (pk X y)).length ≤ 900 := by
          have e1 := List.length_filter_le (pk X y) (l.take j)
          have e2 : (l.take j).length ≤ j := by rw [List.length_take]; omega
          omega
        have ej := hk2.out j (Nat.le_refl _) hj
        have cj := hdf.cell (t := j) (by omega)
        have ca := hdf.cell (t := a) (by omega)
        rw [ej] at cj
        obtain ⟨u, hu⟩ : ∃ u, u = l[j]! := ⟨_, rfl⟩
        have hsp := hdf.step hll l[j]! (hp.out j hj)
        rw [← hu] at cj hsp
        have hts1 : (l.take (j + 1)).filter (pk X y) = (l.take j).filter (pk X y) ++ (if pk X y u then [u] else []) := by
          rw [take_snoc l j (by rw [hnn.out]; exact hj), ← hu, List.filter_append, List.filter_cons]; rfl
        have hts2 : (l.take (j + 1)).filter (fun b => !pk X y b) = (l.take j).filter (fun b => !pk X y b) ++ (if pk X y u then [] else [u]) := by
          rw [take_snoc l j (by rw [hnn.out]; exact hj), ← hu, List.filter_append, List.filter_cons]
          cases pk X y u <;> rfl
        obtain ⟨v, hv⟩ : ∃ v, v = lc[a]! := ⟨_, rfl⟩
        rw [← hv] at ca
        replace hdf : Hid (Df X bl ba bw bt y g cap vt ((l.take j).filter (pk X y)) lc w0 wr) := hdf
        clear ej hv
        cases hpk : pk X y u with
        | true =>
          rw [hpk] at hsp hts1 hts2
          simp only [if_true, List.append_nil] at hts1 hts2 hsp
          replace hsp : Hid _ := hsp
          replace hts1 : Hid _ := hts1
          replace hts2 : Hid _ := hts2
          clear hu hpk
          go_wp2_with fail
          refine Calls.mono hsp.out ?_
          rintro e w2 ⟨rfl, vt2, hd2⟩
          replace hd2 : Hid (Df X bl ba bw bt y g cap vt2 ((l.take j).filter (pk X y) ++ [u]) lc w0 w2) := hd2
          go_wp2_with fail
          go_roundw
          case rel => exact ⟨a, j + 1, lc, vt2, rfl, by go_num, by omega, by omega, hlc, hk1.out.trans hts2.out.symm, fun t h1 h2 => hk2.out t (by omega) h2, by rw [hts1.out]; exact hd2.out⟩
          case measure => simp [intOf]; omega
        | false =>
          rw [hpk] at hsp hts1 hts2
          simp only [Bool.false_eq_true, if_false, List.append_nil] at hts1 hts2 hsp
          replace hsp : Hid _ := hsp
          replace hts1 : Hid _ := hts1
          replace hts2 : Hid _ := hts2
          clear hpk
          replace hu : Hid (u = l[j]!) := hu
          go_wp2_with fail
          refine Calls.mono hsp.out ?_
          rintro e w2 ⟨rfl, vt2, hd2⟩
          have c2 := hd2.cell (t := a) (by omega)
          have z2 := hd2.free a
          have hd3 := hd2.put a u (by omega)
          replace hd2 : Hid (Df X bl ba bw bt y g cap vt2 ((l.take j).filter (pk X y)) lc w0 w2) := hd2
          replace hd3 : Hid (Df X bl ba bw bt y g cap vt2 ((l.take j).filter (pk X y)) (lc.set a u) w0 (w2.setCell ⟨g, a, none⟩ (ptr u))) := hd3
          obtain ⟨v2, hv2⟩ : ∃ v, v = lc[a]! := ⟨_, rfl⟩
          rw [← hv2] at c2
          clear hv2
          go_wp2_with fail
          go_roundw
          case rel =>
            refine ⟨a + 1, j + 1, lc.set a u, vt2, by go_num, by go_num, by omega, by omega, by simpa using hlc, ?_, fun t h1 h2 => ?_, by rw [hts1.out]; exact hd3.out⟩
            · show (lc.set a u).take (a + 1) = _
              rw [hts2.out, ← hk1.out, take_snoc _ a (by simp; omega), List.take_set_of_le (Nat.le_refl _)]
              congr 1
              rw [getElem!_pos _ a (by simp; omega)]
              simp
            · have hne : a ≠ t := by omega
              rw [getElem!_pos _ t (by simp; omega), List.getElem_set_ne hne, ← getElem!_pos lc t (by omega)]
              exact hk2.out t (by omega) h2
          case measure => simp [intOf]; omega
      · have hjn2 : j = n := by omega
        subst hjn2
        have hta : l.take j = l := by rw [List.take_of_length_le (by rw [hnn.out]; exact Nat.le_refl _)]
        have hcut := hdf.cut a (j - a) (by omega)
        rw [hk1.out, hta] at hcut
        rw [hta] at hdf
        have hl2 : a = L2.length := by
          have e := congrArg List.length hk1.out
          rw [hta, ← hL2.out, List.length_take] at e
          omega
        obtain ⟨k, hk⟩ : ∃ k, j - a = k + 1 := ⟨j - a - 1, by omega⟩
        have hclr := clear_many 0 g a k (cap - a) wr (fun t ht => by rw [hdf.cell (t := a + t) (by omega)]; rfl) (fun t => hdf.free t)
        obtain ⟨W2, hW2⟩ : ∃ W, W = wr.setCells g a (List.replicate (k + 1) (.pointer none)) := ⟨_, rfl⟩
        rw [hk, ← hW2, ← hL1.out, ← hL2.out] at hcut
        rw [← hW2] at hclr
        rw [← hk] at hclr
        replace hcut : Hid (Df X bl ba bw bt y g cap vt L1 L2 w0 W2) := hcut
        replace hl2 : Hid (a = L2.length) := hl2
        have hclr : Hid (∀ ty, ty = 0 → (Builtin.clear_ #[64] ty #[.slice (some ⟨g, a, none⟩) (j - a) (cap - a)]).run Ybaf.prog wr = .ok (.tuple #[]) W2) := fun ty e => by rw [e]; exact hclr
        clear hdf hk hW2 hta
        have hcx := hclr.out 0 rfl
        have hna : ¬ (cap = a) := by omega
        have haj2 : a ≤ j := by omega
        go_wp2_with fail
        go_ret
        exact ⟨by rw [← hl2.out]; rfl, vt, hcut.out⟩
  · have hall : l.filter (pk X y) = [] ∧ l.filter (fun b => !pk X y b) = l := by
      have := filter_none X y l n (by rw [hnn.out]; exact Nat.le_refl _) q2
      rwa [List.take_of_length_le (by rw [hnn.out]; exact Nat.le_refl _)] at this
    have e1 : L1 = [] := hL1.out.trans hall.1
    have e2 : L2 = l := hL2.out.trans hall.2
    replace hd : Hid (Df X bl ba bw bt y g cap vt1 [] l w0 w1) := hd
    replace e1 : Hid (L1 = []) := e1
    replace e2 : Hid (L2 = l) := e2
    clear hall q2
    go_wp2_with fail
    go_ret
    exact ⟨by rw [e2.out, hnn.out]; rfl, vt1, by rw [e1.out, e2.out]; exact hd.out⟩
end Go.Proofs.YbulkcoecFmt
