import Derived.Test.YbulkcoguLeaves
import Derived.Maps.OwnOps
namespace Go.Proofs.Ybulkcogu
open Go.RowKit
set_option linter.unusedVariables false
set_option linter.unusedSimpArgs false

/-- 'v, ok := m[k]' in a map of one int key, that key. -/
theorem look_one (w : World) (r : Nat) (k v : Int) (bn c : Nat) (h : w.heap[r]? = some (.map #[⟨.int .i64 k, .int .i64 v, bn⟩] c)) :
    (Instr.lookup 40 (.map (some r)) (.int .i64 k) true).run Yba.prog w = .ok (.tuple #[.int .i64 v, .bool true]) w := by
  have hk : MapKept.IsKey (.int .i64) (.int .i64 k) := by simp [MapKept.IsKey]
  simp [Instr.lookup, run_underlying Yba.underlying40, MapKept.run_getObj_map h, MapKept.run_checkKey Yba.underlying3 hk _ 9999,
    MapKept.run_findKey (d := .int .i64) (a := some (0, .int .i64 v)) Yba.underlying3 (show Instr.findNow (.int .i64) (.int .i64 k) [⟨.int .i64 k, .int .i64 v, bn⟩] 0 = _ by simp [Instr.findNow, Instr.sameNow])]

theorem wait_neg (S r : Nat) (i v : Int) (bn c : Nat) (t : Int) (w : World) (h0 : w.cell? ⟨S, 2, none⟩ = some (.int .i64 t)) (h1 : w.cell? ⟨S, 3, none⟩ = some (.int .i64 4611686018427387904))
    (hf : w.frozen? ⟨S, 2, none⟩ = false) (ht0 : 0 ≤ t) (ht : t ≤ 1000000) (hm : w.heap[r]? = some (.map #[⟨.int .i64 i, .int .i64 v, bn⟩] c)) (hrS : r ≠ S) (hv : v < 0) :
    Calls Yba.prog 6 #[.pointer (some ⟨S, 0, none⟩), .int .i64 i, .map (some r)] w fun e w' => e = .returned (.tuple #[.slice none 0 0, .slice none 0 0, .bool false]) ∧ ∃ n, w' = (w.drewN n).setCell ⟨S, 2, none⟩ (.int .i64 (t + 1)) := by
  have hlk : ∀ n, (Instr.lookup 40 (.map (some r)) (.int .i64 i) true).run Yba.prog ((w.drewN n).setCell ⟨S, 2, none⟩ (.int .i64 (t + 1))) = .ok (.tuple #[.int .i64 v, .bool true]) ((w.drewN n).setCell ⟨S, 2, none⟩ (.int .i64 (t + 1))) :=
    fun n => look_one _ r i v bn c (by rw [Below.heap_setCell _ _ _ _ hrS]; exact hm)
  go_enter Yba.func6, Yba.ntmps6
  go_wp2_with (go_at_call 9; refine (take_any S 2 t _ h0 h1 hf ht0 ht).mono ?_; rintro e w' ⟨rfl, n, rfl⟩)
  go_ret3
  exact ⟨rfl, _, rfl⟩

/-- The elements that are not i. -/
def but (i : Int) (zs : List Int) (k : Nat) : List Int := (zs.take k).filter (fun z => z != i)

theorem but_le (i : Int) (zs : List Int) (k : Nat) : (but i zs k).length ≤ k := by
  unfold but
  exact Nat.le_trans (List.length_filter_le _ _) (List.length_take_le _ _)

theorem but_hit (i : Int) (zs : List Int) (k : Nat) (h : k < zs.length) (hz : (zs.getD k 0 != i) = true) : but i zs (k + 1) = but i zs k ++ [zs.getD k 0] := by
  unfold but
  rw [List.take_succ_eq_append_getElem h, List.filter_append]
  have e : zs.getD k 0 = zs[k] := by simp [List.getD, h]
  rw [e] at hz ⊢
  simp [List.filter_cons, hz]

theorem but_miss (i : Int) (zs : List Int) (k : Nat) (h : k < zs.length) (hz : (zs.getD k 0 != i) = false) : but i zs (k + 1) = but i zs k := by
  unfold but
  rw [List.take_succ_eq_append_getElem h, List.filter_append]
  have e : zs.getD k 0 = zs[k] := by simp [List.getD, h]
  rw [e] at hz
  simp [List.filter_cons, hz]

theorem Yba.info3 : (Yba.prog.info? 3).map (fun i => (i.zero, i.size, i.bytes)) = some (some (.int .i64 0), 1, 8) := by kernel_rfl

/-- (*knots).tiesOf -/
theorem ties_any (S kn : Nat) (nb no nl nc tb to tl tc : Nat) (g m mc T : Nat) (w : World)
    (hn : w.cell? ⟨S, 20, none⟩ = some (.slice (some ⟨nb, no, none⟩) nl nc)) (ht : w.cell? ⟨S, 21, none⟩ = some (.slice (some ⟨tb, to, none⟩) tl tc))
    (hk1 : kn < nl) (hk2 : kn < tl) (hnl : nl ≤ 100000) (htl : tl ≤ 100000) (hnb : w.cell? ⟨nb, no + kn, none⟩ = some (.slice (some ⟨g, 0, none⟩) m mc)) (htb : w.cell? ⟨tb, to + kn, none⟩ = some (.int .i64 T)) (hT : T ≤ m) (hm : m ≤ mc) (hmc : mc ≤ 1000000) :
    Calls Yba.prog 11 #[.pointer (some ⟨S, 18, none⟩), .int .i64 kn] w fun e w' => e = .returned (.slice (some ⟨g, 0, none⟩) T mc) ∧ ∃ n, w' = w.drewN n := by
  go_enter Yba.func11, Yba.ntmps11
  go_wp2
  go_quiet (fail)
  go_wp2
  go_ret
  exact ⟨rfl, _, rfl⟩

/-- (*knots).membersOf -/
theorem members_any (S kn : Nat) (nb no nl nc tb to tl tc : Nat) (g m mc T : Nat) (w : World)
    (hn : w.cell? ⟨S, 20, none⟩ = some (.slice (some ⟨nb, no, none⟩) nl nc)) (ht : w.cell? ⟨S, 21, none⟩ = some (.slice (some ⟨tb, to, none⟩) tl tc))
    (hk1 : kn < nl) (hk2 : kn < tl) (hnl : nl ≤ 100000) (htl : tl ≤ 100000) (hnb : w.cell? ⟨nb, no + kn, none⟩ = some (.slice (some ⟨g, 0, none⟩) m mc)) (htb : w.cell? ⟨tb, to + kn, none⟩ = some (.int .i64 T)) (hT : T ≤ m) (hm : m ≤ mc) (hmc : mc ≤ 1000000) :
    Calls Yba.prog 12 #[.pointer (some ⟨S, 18, none⟩), .int .i64 kn] w fun e w' => ∃ o, e = .returned (.slice (some ⟨g, o, none⟩) (m - T) (mc - T)) ∧ (T < m → o = T) ∧ ∃ n, w' = w.drewN n := by
  by_cases h : mc = T
  · have hz : mc - T = 0 := by omega
    go_enter Yba.func12, Yba.ntmps12
    go_wp2
    go_quiet (fail)
    go_wp2
    go_ret
    refine ⟨0, ?_, by omega, _, rfl⟩
    rw [hz]
    rfl
  · go_enter Yba.func12, Yba.ntmps12
    go_wp2
    go_quiet (fail)
    go_wp2
    go_ret
    exact ⟨T, rfl, fun _ => rfl, _, rfl⟩

set_option maxHeartbeats 1000000 in
theorem wait_tied (S r : Nat) (i : Int) (bn c : Nat) (t : Int) (kn : Nat) (nb no nl nc tb to tl tc : Nat) (g m mc T : Nat) (zs : List Int) (w : World)
    (h0 : w.cell? ⟨S, 2, none⟩ = some (.int .i64 t)) (h1 : w.cell? ⟨S, 3, none⟩ = some (.int .i64 4611686018427387904))
    (hf : w.frozen? ⟨S, 2, none⟩ = false) (ht0 : 0 ≤ t) (htt : t ≤ 1000000) (hm : w.heap[r]? = some (.map #[⟨.int .i64 i, .int .i64 kn, bn⟩] c)) (hrS : r ≠ S)
    (hn : w.cell? ⟨S, 20, none⟩ = some (.slice (some ⟨nb, no, none⟩) nl nc)) (ht : w.cell? ⟨S, 21, none⟩ = some (.slice (some ⟨tb, to, none⟩) tl tc))
    (hk1 : kn < nl) (hk2 : kn < tl) (hnl : nl ≤ 100000) (htl : tl ≤ 100000) (hnb : w.cell? ⟨nb, no + kn, none⟩ = some (.slice (some ⟨g, 0, none⟩) m mc)) (htb : w.cell? ⟨tb, to + kn, none⟩ = some (.int .i64 T)) (hT : T ≤ m) (hmm : m ≤ mc) (hmc : mc ≤ 1000000)
    (hzl : zs.length = T) (hz : ∀ j, j < T → w.cell? ⟨g, j, none⟩ = some (.int .i64 (zs.getD j 0))) (hnS : nb ≠ S) (htS : tb ≠ S) (hgS : g ≠ S) :
    Calls Yba.prog 6 #[.pointer (some ⟨S, 0, none⟩), .int .i64 i, .map (some r)] w fun e w' => ∃ o v, e = .returned (.tuple #[.slice (some ⟨g, o, none⟩) (m - T) (mc - T), v, .bool true]) ∧ (T < m → o = T) ∧
      w'.ownsRow w.heap.size 3 1 v (but i zs T).length ((but i zs T).map (Value.int .i64)) ∧ Below w.heap.size (w.setCell ⟨S, 2, none⟩ (.int .i64 (t + 1))) w' := by
  obtain ⟨i0, hi, hz0, hz1, hz2⟩ := info_parts Yba.info3
  have hlk : ∀ n, (Instr.lookup 40 (.map (some r)) (.int .i64 i) true).run Yba.prog ((w.drewN n).setCell ⟨S, 2, none⟩ (.int .i64 (t + 1))) = .ok (.tuple #[.int .i64 kn, .bool true]) ((w.drewN n).setCell ⟨S, 2, none⟩ (.int .i64 (t + 1))) :=
    fun n => look_one _ r i kn bn c (by rw [Below.heap_setCell _ _ _ _ hrS]; exact hm)
  subst hzl
  have HZ : Hid (∀ j, j < zs.length → w.cell? ⟨g, j, none⟩ = some (.int .i64 (zs.getD j 0))) := hz
  clear hz
  have HN : Hid (w.cell? ⟨S, 20, none⟩ = some (.slice (some ⟨nb, no, none⟩) nl nc)) := hn
  have HT : Hid (w.cell? ⟨S, 21, none⟩ = some (.slice (some ⟨tb, to, none⟩) tl tc)) := ht
  have HNB : Hid (w.cell? ⟨nb, no + kn, none⟩ = some (.slice (some ⟨g, 0, none⟩) m mc)) := hnb
  have HTB : Hid (w.cell? ⟨tb, to + kn, none⟩ = some (.int .i64 zs.length)) := htb
  have HM : Hid (w.heap[r]? = some (.map #[⟨.int .i64 i, .int .i64 kn, bn⟩] c)) := hm
  clear hn ht hnb htb hm
  go_enter Yba.func6, Yba.ntmps6
  go_wp2_with fail
  refine (take_any S 2 t _ h0 h1 hf ht0 htt).mono ?_
  rintro e w' ⟨rfl, n, rfl⟩
  have hk0 : decide ((kn : Int) < 0) = false := by simp
  have HI : Hid (Yba.prog.info? 3 = some i0 ∧ i0.zero = some (.int .i64 0) ∧ i0.size = 1 ∧ i0.bytes = 8) := ⟨hi, hz0, hz1, hz2⟩
  clear hi hz0 hz1 hz2 h0 h1
  go_wp2_with fail
  clear hlk
  have hbW : Below w.heap.size (w.setCell ⟨S, 2, none⟩ (.int .i64 (t + 1))) ((w.drewN n).setCell ⟨S, 2, none⟩ (.int .i64 (t + 1))) := ⟨rfl, rfl, rfl, Nat.le_refl _, fun _ _ => rfl⟩
  have hnW : ((w.drewN n).setCell ⟨S, 2, none⟩ (.int .i64 (t + 1))).cell? ⟨S, 20, none⟩ = some (.slice (some ⟨nb, no, none⟩) nl nc) := (World.cell?_setCell_other _ _ _ _ (by simp)).trans HN.out
  have htW : ((w.drewN n).setCell ⟨S, 2, none⟩ (.int .i64 (t + 1))).cell? ⟨S, 21, none⟩ = some (.slice (some ⟨tb, to, none⟩) tl tc) := (World.cell?_setCell_other _ _ _ _ (by simp)).trans HT.out
  have hnbW : ((w.drewN n).setCell ⟨S, 2, none⟩ (.int .i64 (t + 1))).cell? ⟨nb, no + kn, none⟩ = some (.slice (some ⟨g, 0, none⟩) m mc) := (World.cell?_setCell_other _ _ _ _ (by simp [hnS.symm])).trans HNB.out
  have htbW : ((w.drewN n).setCell ⟨S, 2, none⟩ (.int .i64 (t + 1))).cell? ⟨tb, to + kn, none⟩ = some (.int .i64 zs.length) := (World.cell?_setCell_other _ _ _ _ (by simp [htS.symm])).trans HTB.out
  have HZW : Hid (∀ j, j < zs.length → ((w.drewN n).setCell ⟨S, 2, none⟩ (.int .i64 (t + 1))).cell? ⟨g, j, none⟩ = some (.int .i64 (zs.getD j 0))) := fun j hj => (World.cell?_setCell_other _ _ _ _ (by simp [hgS.symm])).trans (HZ.out j hj)
  have hszW : ((w.drewN n).setCell ⟨S, 2, none⟩ (.int .i64 (t + 1))).heap.size = w.heap.size := by simp [World.setCell]
  generalize (w.drewN n).setCell ⟨S, 2, none⟩ (.int .i64 (t + 1)) = W at *
  have HSZ : Hid (W.heap.size = w.heap.size) := hszW
  clear hszW hf hrS
  refine (ties_any S kn nb no nl nc tb to tl tc g m mc zs.length W hnW htW hk1 hk2 hnl htl hnbW htbW hT hmm hmc).mono ?_
  rintro e w' ⟨rfl, n1, rfl⟩
  go_wp2_with fail
  have HW1 : Hid (∀ B, Below B W (W.drewN n1)) := fun B => ⟨rfl, rfl, rfl, Nat.le_refl _, fun _ _ => rfl⟩
  go_loopw [7, 49] (fun v q wr => ∃ k : Nat, k ≤ zs.length ∧ q = .int .i64 k ∧ wr.ownsRow w.heap.size 3 1 v (but i zs k).length ((but i zs k).map (Value.int .i64)) ∧ Below w.heap.size W wr)
    (fun _ q _ => zs.length - (intOf q).toNat)
  case atStart => exact ⟨0, Nat.zero_le _, rfl, World.ownsRow_nil _ _ _ _, HW1.out _⟩
  case round =>
    obtain ⟨k, hk, rfl, hown, hbel⟩ := hrel
    by_cases hlt : k < zs.length
    · obtain ⟨z, hzk⟩ : ∃ z, zs.getD k 0 = z := ⟨_, rfl⟩
      have hcx : wr.cell? ⟨g, k, none⟩ = some (.int .i64 z) := by
        have h := HZW.out k hlt
        have hb := World.block_lt_of_cell? _ _ h
        rw [HSZ.out] at hb
        rw [hbel.cell (p := ⟨g, k, none⟩) hb, h, hzk]
      have hbl := but_le i zs k
      by_cases hz : (z != i) = true
      · have HM1 : Hid (but i zs (k + 1) = but i zs k ++ [z]) := by have := but_hit i zs k hlt (by rw [hzk]; exact hz); rw [hzk] at this; exact this
        clear hzk hbW hnW htW hnbW htbW hk0 hk1 hk2
        have hws : w.heap.size ≤ wr.heap.size := by have := hbel.size; rw [HSZ.out] at this; exact this
        go_wp2_with (at_builtin; refine wpList_append_own _ rfl (.tmp 56) (.tmp 58) 22 rfl w.heap.size 3 i0 (.int .i64 0) 1 8 Yba.underlying22 HI.out.1 HI.out.2.1 HI.out.2.2.1 HI.out.2.2.2 rfl (by decide) _ _ _ rfl (hown.alloc _) ⟨wr.heap.size, 0, none⟩ 1 1 [.int .i64 z] rfl rfl (cell_one_new _ _ _) (ints_oneCell .i64 [z]) (by unfold maxLen; omega) (by omega) (by simp; omega) ?_; intro v' w1 hown' hgrow hnil)
        have hall := (World.grownBy_alloc wr (.cells #[.int .i64 z] 3) _).trans hgrow
        have hbel1 : Below w.heap.size W w1 := hbel.grown hall hws (fun j hj => (hown.lt j hj).1)
        clear hown hgrow hall hnil hbel
        go_wp2
        go_roundw
        case rel => exact ⟨k + 1, by omega, by go_num, by rw [HM1.out]; simpa using hown', hbel1⟩
        case measure => simp [intOf]; omega
      · have hz' : (z != i) = false := by simpa using hz
        have HM1 : Hid (but i zs (k + 1) = but i zs k) := but_miss i zs k hlt (by rw [hzk]; exact hz')
        clear hz hzk hbW hnW htW hnbW htbW hk0 hk1 hk2
        go_wp2
        go_roundw
        case rel => exact ⟨k + 1, by omega, by go_num, by rw [HM1.out]; exact hown, hbel⟩
        case measure => simp [intOf]; omega
    · obtain rfl : k = zs.length := by omega
      go_wp2_with fail
      have hb : ∀ {b o : Nat} {u : Value}, W.cell? ⟨b, o, none⟩ = some u → wr.cell? ⟨b, o, none⟩ = some u := fun {b o u} h => by
        have hb := World.block_lt_of_cell? _ _ h
        rw [HSZ.out] at hb
        rw [hbel.cell (p := ⟨b, o, none⟩) hb, h]
      refine (members_any S kn nb no nl nc tb to tl tc g m mc zs.length wr (hb hnW) (hb htW) hk1 hk2 hnl htl (hb hnbW) (hb htbW) hT hmm hmc).mono ?_
      rintro e w' ⟨o, rfl, ho, n2, rfl⟩
      clear hb hnW htW hnbW htbW
      go_wp2
      go_ret3
      exact ⟨o, _, rfl, ho, hown, below_drewN (hbW.trans hbel) _⟩

/-- The same, told of the two lists: the knot's row holds z1 ++ z2, and z1 are its ties. -/
theorem wait_lists (S r : Nat) (i : Int) (bn c : Nat) (t : Int) (kn : Nat) (nb no nl nc tb to tl tc : Nat) (g mc : Nat) (z1 z2 : List Int) (w : World)
    (h0 : w.cell? ⟨S, 2, none⟩ = some (.int .i64 t)) (h1 : w.cell? ⟨S, 3, none⟩ = some (.int .i64 4611686018427387904))
    (hf : w.frozen? ⟨S, 2, none⟩ = false) (ht0 : 0 ≤ t) (htt : t ≤ 1000000) (hm : w.heap[r]? = some (.map #[⟨.int .i64 i, .int .i64 kn, bn⟩] c)) (hrS : r ≠ S)
    (hn : w.cell? ⟨S, 20, none⟩ = some (.slice (some ⟨nb, no, none⟩) nl nc)) (ht : w.cell? ⟨S, 21, none⟩ = some (.slice (some ⟨tb, to, none⟩) tl tc))
    (hk1 : kn < nl) (hk2 : kn < tl) (hnl : nl ≤ 100000) (htl : tl ≤ 100000) (hnb : w.cell? ⟨nb, no + kn, none⟩ = some (.slice (some ⟨g, 0, none⟩) (z1.length + z2.length) mc)) (htb : w.cell? ⟨tb, to + kn, none⟩ = some (.int .i64 z1.length)) (hmm : z1.length + z2.length ≤ mc) (hmc : mc ≤ 1000000)
    (hz : ∀ j, j < (z1 ++ z2).length → w.cell? ⟨g, j, none⟩ = some (.int .i64 ((z1 ++ z2).getD j 0))) (hnS : nb ≠ S) (htS : tb ≠ S) (hgS : g ≠ S) :
    Calls Yba.prog 6 #[.pointer (some ⟨S, 0, none⟩), .int .i64 i, .map (some r)] w fun e w' => ∃ aft cA av cv, e = .returned (.tuple #[.slice aft z2.length cA, .slice av (but i z1 z1.length).length cv, .bool true]) ∧ At w' aft z2 ∧
      w'.ownsRow w.heap.size 3 1 (.slice av (but i z1 z1.length).length cv) (but i z1 z1.length).length ((but i z1 z1.length).map (Value.int .i64)) ∧ Below w.heap.size (w.setCell ⟨S, 2, none⟩ (.int .i64 (t + 1))) w' := by
  refine (wait_tied S r i bn c t kn nb no nl nc tb to tl tc g (z1.length + z2.length) mc z1.length z1 w h0 h1 hf ht0 htt hm hrS hn ht hk1 hk2 hnl htl hnb htb (by omega) hmm hmc rfl
    (fun j hj => by rw [hz j (by simp; omega)]; simp [List.getD, List.getElem?_append_left hj]) hnS htS hgS).mono ?_
  rintro e w' ⟨o, v, rfl, ho, hown, hbel⟩
  obtain ⟨av, cv, rfl⟩ := shape_of hown
  have e1 : z1.length + z2.length - z1.length = z2.length := by omega
  rw [e1]
  refine ⟨_, _, av, cv, rfl, ?_, hown, hbel⟩
  intro j hj
  obtain rfl := ho (by omega)
  refine ⟨g, z1.length, rfl, ?_⟩
  have hc := hz (z1.length + j) (by simp; omega)
  have hb := World.block_lt_of_cell? _ _ hc
  rw [hbel.cell (p := ⟨g, z1.length + j, none⟩) hb, World.cell?_setCell_other _ _ _ _ (by simp [hgS.symm]), hc]
  simp [List.getD, List.getElem?_append_right]

end Go.Proofs.Ybulkcogu
