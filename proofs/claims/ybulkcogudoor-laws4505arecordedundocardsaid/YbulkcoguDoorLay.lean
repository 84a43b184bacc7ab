import Derived.Test.YbulkcoguDoorBuild
namespace Go.Proofs.YbulkcoguDoor
open Go.RowKit Go.Deep
set_option linter.unusedVariables false
set_option linter.unusedSimpArgs false

theorem rdk_lt {rm : List Nat} {i s g : Nat} (h : g ∈ rdk rm i s) : g < s := by
  unfold rdk at h
  split at h
  · exact List.mem_range.1 (List.mem_filter.1 h).1
  · cases h

theorem rdk_nodup (rm : List Nat) (i s : Nat) : (rdk rm i s).Nodup := by
  unfold rdk
  split
  · exact List.Nodup.sublist List.filter_sublist List.nodup_range
  · exact List.nodup_nil

theorem rdk_len (rm : List Nat) (i s : Nat) : (rdk rm i s).length ≤ s := nodup_le (rdk_nodup rm i s) (fun v hv => rdk_lt hv)

def startSt (live : Nat) (wt lf : Nat → Int) : St := { taken := 0, live := live, wt := wt, lf := lf, pl := [], mks := [], ems := [], tr := [], rc := false, vp := .slice none 0 0, vm := .slice none 0 0, ve := .slice none 0 0, vc := .slice none 0 0, vs := .slice none 0 0, ch := false, bC := 0, kc := 0, bT := 0, bV := 0, sv := 0, pc := 0, col := fun _ => 0, fo := fun _ => Option.none }

set_option maxHeartbeats 4000000 in
theorem Built.lay {m s : Nat} {rm ad : List Nat} {wa : List Int} {w wb w1 : World} {K : Nat} (hb : Built m s rm ad wa w wb K) (hm1 : 1 ≤ m) (hm6 : m ≤ 6) (hs3 : s ≤ 3) (vq vz : Value) (h0 : 0 < w.heap.size) (hsz : wb.heap.size ≤ w1.heap.size)
    (hold : ∀ b, b < wb.heap.size → b ≠ K → w1.heap[b]? = wb.heap[b]?) (hK : ∀ kk, wb.heap[K]? = some (.cells kk 42 (0, 0)) → w1.heap[K]? = some (.cells ((kk.setIfInBounds 18 vq).setIfInBounds 19 vz) 42 (0, 0))) (htab : TabAt 0 Lib.deBruijn64tab w1) :
    ∃ L : Lay, Good L ∧ L.w1 = w1 ∧ L.K = K ∧ L.m = m ∧ L.s = s ∧ L.vq = vq ∧ L.vz = vz ∧ L.bB = w.heap.size ∧ L.bW = w.heap.size + 1 ∧ L.xV = w.heap.size + 3 ∧ Told L rm ad wa (waitv wa) ∧ (∀ g, g < L.s → L.cnt g = Cn L.rd L.m g) ∧ Blk w1 L.bB 49 (2 * L.n + 1) (fBitsF ad (2 ^ L.n - 1) L.n) ∧ Blk w1 L.bW 3 L.n (fWait wa L.n) ∧
      Sta L (startSt (2 ^ L.n - 1) (waitv wa) (fun g => (L.cnt g : Int))) w1 ∧ (∀ b, L.Spec b → w.heap.size ≤ b ∧ b < wb.heap.size) := by
  obtain ⟨B, n, F, bG, S, bO, rvs, col, v16, v38, v39, eB, en, eF, o1, o2, o3, o4, o5, o6, o7, hRS, hG, hS, hO, hKb, hrb⟩ := hb.all
  have lS : S < wb.heap.size := by omega
  have lO : bO < wb.heap.size := hO.lt
  have lG : bG < wb.heap.size := hG.lt
  have b1 : Blk w1 B 49 (2 * n + 1) (fBitsF ad F n) := hRS.b.same (hold _ hRS.b.lt (by omega))
  have b2 : Blk w1 (B + 1) 3 n (fWait wa n) := hRS.wt.same (hold _ hRS.wt.lt (by omega))
  have b3 : Blk w1 (B + 2) 28 m rvs := hRS.rd.same (hold _ hRS.rd.lt (by omega))
  have b4 : Blk w1 (B + 2 + 1) 3 s _ := hRS.cn.same (hold _ hRS.cn.lt (by omega))
  have b5 : Blk w1 bG 54 (4 * s) _ := hG.same (hold _ lG (by omega))
  have b6 : Blk w1 bO 28 m _ := hO.same (hold _ lO (by omega))
  have b7 := (hold S lS (by omega)).trans hS
  have b8 := hK _ hKb
  have hn9 : n ≤ 9 := by omega
  have hF5 : 2 ^ n - 1 < 2 ^ n := by have := Nat.two_pow_pos n; omega
  let L : Lay := { K := K, S := S, bB := B, bW := B + 1, bG := bG, bO := bO, bR := B + 2, xV := B + 2 + 1, m := m, s := s, add := fun v => if v < n then addv ad F v else 0, rd := fun i => rdk rm i s, rv := rvs, rb := fun i => ((rvs i).ownBlock).getD 0, cnt := fun g => cnt (fun i => (rdk rm i s).contains g) m, vq := vq, vz := vz, w1 := w1 }
  have hLn : L.n = n := en.symm
  have hSp : ∀ b, L.Spec b ↔ (b = K ∨ b = S ∨ b = B ∨ b = B + 1 ∨ b = bG ∨ b = B + 2 + 1) := fun b => Iff.rfl
  have hadd_lt : ∀ v, addv ad F v < 2 ^ n := fun v => by
    unfold addv
    split
    · exact Nat.lt_of_le_of_lt Nat.and_le_right (by rw [eF]; exact hF5)
    · exact Nat.two_pow_pos n
  have hG9 : Good L := by
    refine { m1 := hm1, m6 := hm6, s3 := hs3, pos := (by show 0 < B; omega), BW := (by show B < B + 1; omega), BS := (by show B < S; omega), BG := (by show B < bG; omega), BK := (by show B < K; omega), BV := (by show B < B + 2 + 1; omega), KS := (by show K ≠ S; omega), KW := (by show K ≠ B + 1; omega), KG := (by show K ≠ bG; omega), KV := (by show K ≠ B + 2 + 1; omega), SW := (by show S ≠ B + 1; omega), SG := (by show S ≠ bG; omega), SV := (by show S ≠ B + 2 + 1; omega), WG := (by show B + 1 ≠ bG; omega), WV := (by show B + 1 ≠ B + 2 + 1; omega), GV := (by show bG ≠ B + 2 + 1; omega), Kl := (by show K < w1.heap.size; omega), Sl := (by show S < w1.heap.size; omega), Bl := b1.lt, Wl := b2.lt, Gl := b5.lt, Ol := b6.lt, Rl := b3.lt, Vl := b4.lt, nO := (by rw [hSp]; show ¬ (bO = K ∨ bO = S ∨ bO = B ∨ bO = B + 1 ∨ bO = bG ∨ bO = B + 2 + 1); omega), nR := (by rw [hSp]; show ¬ (B + 2 = K ∨ B + 2 = S ∨ B + 2 = B ∨ B + 2 = B + 1 ∨ B + 2 = bG ∨ B + 2 = B + 2 + 1); omega), add_lt := fun v => ?_, kf := fun o v hv => ?_, lim := cell_in b7 rfl, row0 := fun v hv => ?_, addc := fun v hv => ?_, endc := fun g hg => ?_, rdsc := fun g hg => ?_, opn := fun i hi => b6.cell hi, rds := fun i hi => b3.cell hi, rrow := fun i hi => ?_, rdlt := fun i hi g hg => rdk_lt hg, rdnd := fun i hi => rdk_nodup rm i s, rdle := fun i hi => ?_, free := fun b hb o => ?_,tab := htab }
    · rw [hLn]
      show (if v < n then addv ad F v else 0) < 2 ^ n
      split
      · exact hadd_lt v
      · exact Nat.two_pow_pos n
    · refine cell_in b8 ?_
      unfold Lay.kfix at hv
      rw [hLn] at hv
      split at hv <;> first | (cases hv; rfl) | (cases hv)
    · rw [hLn] at hv
      rw [b1.cell (j := v) (by omega)]
      unfold fBitsF updV fBits
      rw [if_neg (by omega), if_neg (by omega)]
      rfl
    · rw [hLn] at hv ⊢
      rw [b1.cell (j := n + v) (by omega)]
      unfold fBitsF updV fBits
      rw [if_neg (by omega), if_pos (by omega)]
      show _ = some (Value.int .u64 ((if v < n then addv ad F v else 0 : Nat) : Int))
      rw [if_pos hv, show n + v - n = v by omega]
    · have hg' : g < s := hg
      rw [b5.cell (j := 4 * g + 1) (by omega)]
      unfold fSeg
      rw [if_pos (by omega), if_neg (by omega), if_pos (by omega), show (4 * g + 1) / 4 = g by omega]
    · have hg' : g < s := hg
      rw [b5.cell (j := 4 * g + 3) (by omega)]
      unfold fSeg
      rw [if_pos (by omega), if_neg (by omega), if_neg (by omega), show (4 * g + 3) / 4 = g by omega]
    · rcases (hRS.row i hi).2 with ⟨h1, h2⟩ | ⟨g, cap, cur, h1, h2, h3, h4, h5, h6, h7⟩
      · exact .inl ⟨h1, List.eq_nil_of_length_eq_zero h2⟩
      · have hob : (rvs i).ownBlock = some g := by rw [h1]; rfl
        have hgG := hrb i hi g hob
        have e1 : L.rb i = g := by show ((rvs i).ownBlock).getD 0 = g; rw [hob]; rfl
        refine .inr ⟨cap, ?_, h4, ?_, ?_, fun j hj => ?_⟩
        · show rvs i = _
          rw [h1, e1]
        · rw [e1]; show g < w1.heap.size; omega
        · rw [e1, hSp]
          omega
        · rw [e1]
          have hc := (hRS.row i hi).cells (g := g) hob j (encI (rdk rm i s)[j]) (by simp [show j < (rdk rm i s).length from hj])
          rw [Addr.add_lit, Nat.zero_add] at hc
          exact (World.cell?_of_block (w := wb) (hold g (by omega) (by omega))).trans hc
    · have := rdk_len rm i s
      show (rdk rm i s).length ≤ 9
      omega
    · rcases (hSp b).1 hb with rfl | rfl | rfl | rfl | rfl | rfl
      · exact free_in b8
      · exact free_in b7
      · exact b1.free o
      · exact b2.free o
      · exact b5.free o
      · exact b4.free o
  refine ⟨L, hG9, rfl, rfl, rfl, rfl, rfl, rfl, eB, by rw [← eB], by show B + 2 + 1 = _; omega, ⟨fun i hi g hg => ?_, fun v hv => ?_, fun v hv => ?_, fun u => rfl⟩, fun g hg => rfl, ?_, ?_, ⟨⟨?_, cell_in b7 rfl, ?_, fun u hu => ?_, fun g hg => ?_, fun o v hv => ?_⟩, ?_⟩, fun b hb => ?_⟩
  · show (rdk rm i s).contains g = _
    rw [rdk_mem]
    have : g < s := hg
    simp [this]
  · show (if v < n then addv ad F v else 0) = _
    rw [hLn] at hv ⊢
    rw [if_pos hv, eF]
    rfl
  · show (if v < n then addv ad F v else 0) = 0
    rw [hLn] at hv
    rw [if_neg (by omega)]
  · rw [hLn, ← eF]; exact b1
  · rw [hLn]; exact b2
  · exact Fix.refl L
  · rw [hLn]
    show w1.cell? ⟨B, 2 * n, none⟩ = _
    rw [b1.cell (j := 2 * n) (by omega)]
    unfold fBitsF updV
    rw [if_pos rfl, eF]
    rfl
  · rw [hLn] at hu
    show w1.cell? ⟨B + 1, u, none⟩ = _
    rw [b2.cell (j := u) hu]
    unfold fWait
    rw [if_pos hu]
    rfl
  · have hg' : g < s := hg
    show w1.cell? ⟨bG, 4 * g + 2, none⟩ = _
    rw [b5.cell (j := 4 * g + 2) (by omega)]
    unfold fSeg
    rw [if_pos (by omega), if_neg (by omega), if_neg (by omega), show (4 * g + 2) / 4 = g by omega]
    rfl
  · refine cell_in b8 ?_
    unfold St.kdyn startSt at hv
    split at hv <;> first | (cases hv; rfl) | (cases hv)
  · exact ⟨World.ownsRow_nil _ _ _ _, World.ownsRow_nil _ _ _ _, World.ownsRow_nil _ _ _ _, fun h => (by cases h), fun _ => ⟨rfl, rfl⟩, fun h => (by cases h), fun h => (by cases h), fun g hg => (by cases hg), fun g hg => (by cases hg), fun g hg => (by cases hg), fun h => (by cases h), fun h => (by cases h), fun h => (by cases h), fun b o h => (by cases h), fun b o h => (by cases h)⟩
  · rcases (hSp b).1 hb with rfl | rfl | rfl | rfl | rfl | rfl <;> omega
end Go.Proofs.YbulkcoguDoor
