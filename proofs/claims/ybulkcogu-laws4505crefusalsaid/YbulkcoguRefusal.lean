import Derived.Test.YbulkcoguUntried
namespace Go.Proofs.Ybulkcogu
open Go.RowKit Go.Deep
set_option linter.unusedVariables false
set_option linter.unusedSimpArgs false

/-- A reference that refuses: a tie whose knot has one unmet. -/
def hits (us : List Int) (r : Nat × Bool) : Bool := r.2 && (us.getD r.1 0 == 1)

/-- What refusal is told. -/
structure Refs (S F i n K : Nat) (t : Int) (us : List Int) (rs : List (Nat × Bool)) (fa ua : Option Addr) (fc uc : Nat) (w : World) : Prop where
  h2 : w.cell? ⟨S, 2, none⟩ = some (.int .i64 t)
  h3 : w.cell? ⟨S, 3, none⟩ = some (.int .i64 4611686018427387904)
  f2 : w.frozen? ⟨S, 2, none⟩ = false
  h18 : w.cell? ⟨S, 18, none⟩ = some (.slice ua K uc)
  h19 : w.cell? ⟨S, 19, none⟩ = some (.slice (some ⟨F, 0, none⟩) n n)
  h23 : w.cell? ⟨S, 23, none⟩ = some (.pointer (some ⟨S, 2, none⟩))
  hF : w.cell? ⟨F, i, none⟩ = some (.slice fa rs.length fc)
  hrs : ∀ k, k < rs.length → ∃ b, fa = some ⟨b, 0, none⟩ ∧ b ≠ S ∧ w.cell? ⟨b, k * 2, none⟩ = some (.int .i64 (rs.getD k (0, false)).1) ∧ w.cell? ⟨b, k * 2 + 1, none⟩ = some (.bool (rs.getD k (0, false)).2)
  hus : ∀ x, x < K → ∃ b, ua = some ⟨b, 0, none⟩ ∧ b ≠ S ∧ w.cell? ⟨b, x, none⟩ = some (.int .i64 (us.getD x 0))
  hK : ∀ k, k < rs.length → (rs.getD k (0, false)).1 < K
  hi : i < n
  hn : n ≤ 2000
  hKb : K ≤ 2000
  hl : rs.length ≤ 2000
  ht0 : 0 ≤ t
  ht : t ≤ 400000
  hFS : F ≠ S

theorem Refs.tick {S F i n K : Nat} {t t' : Int} {us : List Int} {rs : List (Nat × Bool)} {fa ua : Option Addr} {fc uc : Nat} {w w' : World} (h : Refs S F i n K t us rs fa ua fc uc w) (k : Tick S t' w w') (g0 : 0 ≤ t') (g1 : t' ≤ 400000) :
    Refs S F i n K t' us rs fa ua fc uc w' where
  h2 := k.step h.h2
  h3 := k.cell h.h3 (by simp)
  f2 := k.free h.h2 h.f2
  h18 := k.cell h.h18 (by simp)
  h19 := k.cell h.h19 (by simp)
  h23 := k.cell h.h23 (by simp)
  hF := k.cell h.hF (fun e => absurd e h.hFS)
  hrs := fun j hj => by
    obtain ⟨b, hra, hbS, hc0, hc1⟩ := h.hrs j hj
    exact ⟨b, hra, hbS, k.cell hc0 (fun e => absurd e hbS), k.cell hc1 (fun e => absurd e hbS)⟩
  hus := fun x hx => by
    obtain ⟨b, hra, hbS, hc0⟩ := h.hus x hx
    exact ⟨b, hra, hbS, k.cell hc0 (fun e => absurd e hbS)⟩
  hK := h.hK
  hi := h.hi
  hn := h.hn
  hKb := h.hKb
  hl := h.hl
  ht0 := g0
  ht := g1
  hFS := h.hFS

set_option maxHeartbeats 1000000 in
theorem ref_any (S F i n K : Nat) (t : Int) (us : List Int) (rs : List (Nat × Bool)) (fa ua : Option Addr) (fc uc : Nat) (m : Nat) (w : World) (U : Refs S F i n K t us rs fa ua fc uc w)
    (hm : m ≤ rs.length) (hlow : ∀ j, j < m → hits us (rs.getD j (0, false)) = false) (hhit : m < rs.length → hits us (rs.getD m (0, false)) = true)
    (res : Int) (hres1 : m < rs.length → res = (rs.getD m (0, false)).1) (hres2 : ¬ m < rs.length → res = -1) :
    Calls Yba.prog 10 #[.pointer (some ⟨S, 18, none⟩), .int .i64 i] w fun e w' => e = .returned (.int .i64 res) ∧ ∃ t', 0 ≤ t' ∧ t' ≤ t + 2001 ∧ Tick S t' w w' := by
  have HRES1 : Hid (m < rs.length → res = (rs.getD m (0, false)).1) := hres1
  have HRES2 : Hid (¬ m < rs.length → res = -1) := hres2
  have HLOW : Hid (∀ j, j < m → hits us (rs.getD j (0, false)) = false) := hlow
  have HHIT : Hid (m < rs.length → hits us (rs.getD m (0, false)) = true) := hhit
  have hS := World.block_lt_of_cell? _ _ U.h2
  have HU : Hid (Refs S F i n K t us rs fa ua fc uc w) := U
  have g19 := U.h19
  have gF := U.hF
  have hi := U.hi
  have hn := U.hn
  have hl := U.hl
  have hKb := U.hKb
  have ht0 := U.ht0
  have ht := U.ht
  have hnil := fun (w : World) (n c : Nat) (a : Option Addr) => Lib.run_eql_slice_nil (P := Yba.prog) w 32 47 a n c 0 0 Yba.underlying32
  clear hres1 hres2 hlow hhit U
  go_enter Yba.func10, Yba.ntmps10
  go_wp2
  clear hnil g19 gF
  go_loopw [20] (fun q wr => ∃ k : Nat, k ≤ m ∧ q = .int .i64 k ∧ Tick S (t + k) w wr) (fun q _ => rs.length - (intOf q).toNat)
  case atStart => exact ⟨0, Nat.zero_le _, rfl, by simpa using Tick.refl HU.out.h2⟩
  case round =>
    obtain ⟨k, hk, rfl, hT⟩ := hrel
    by_cases hlt : k < rs.length
    · obtain ⟨b, hra, hbS, hc0, hc1⟩ := HU.out.hrs k hlt
      subst hra
      have hkK := HU.out.hK k hlt
      obtain ⟨⟨x, tie⟩, hr⟩ : ∃ r, rs.getD k (0, false) = r := ⟨_, rfl⟩
      rw [hr] at hc0 hc1 hkK
      have g0 : wr.cell? ⟨b, k * 2, none⟩ = some (.int .i64 x) := hT.cell hc0 (fun e => absurd e hbS)
      have g1 : wr.cell? ⟨b, k * 2 + 1, none⟩ = some (.bool tie) := hT.cell hc1 (fun e => absurd e hbS)
      have s2 := hT.step HU.out.h2
      have s3 := hT.cell HU.out.h3 (by simp)
      have sf := hT.free HU.out.h2 HU.out.f2
      have s23 := hT.cell HU.out.h23 (by simp)
      have hwS : S < wr.heap.size := World.block_lt_of_cell? _ _ s2
      have s2a : ∀ o, (wr.alloc o).cell? ⟨S, 2, none⟩ = some (.int .i64 (t + k)) := fun o => by rw [World.cell?_of_block (w := wr) (Below.heap_alloc _ _ _ hwS)]; exact s2
      have s3a : ∀ o, (wr.alloc o).cell? ⟨S, 3, none⟩ = some (.int .i64 4611686018427387904) := fun o => by rw [World.cell?_of_block (w := wr) (Below.heap_alloc _ _ _ hwS)]; exact s3
      have sfa : ∀ o, (wr.alloc o).frozen? ⟨S, 2, none⟩ = false := fun o => by rw [World.frozen?_of_block (w := wr) (Below.heap_alloc _ _ _ hwS)]; exact sf
      have s23a : ∀ o, (wr.alloc o).cell? ⟨S, 23, none⟩ = some (.pointer (some ⟨S, 2, none⟩)) := fun o => by rw [World.cell?_of_block (w := wr) (Below.heap_alloc _ _ _ hwS)]; exact s23
      have HT1 : Hid (Tick S (t + k) w wr) := hT
      have HR : Hid (rs.getD k (0, false) = (x, tie)) := hr
      clear hT hc0 hc1 hr
      go_wp2_with fail
      refine (take_any S 2 (t + k) _ (by exact s2a _) (by exact s3a _) (by exact sfa _) (by omega) (by omega)).mono ?_
      rintro e w2 ⟨rfl, n1, hw2⟩
      have HT2 : Hid (Tick S (t + k + 1) w w2) := by rw [hw2]; exact (HT1.out.alloc hS _).take n1
      have q0 : w2.cell? ⟨wr.heap.size, 0, none⟩ = some (.int .i64 x) := by
        rw [hw2, World.cell?_setCell_other _ _ _ _ (by simp)]
        exact cell_in (heap_alloc_new wr _) rfl
      have q1 : w2.cell? ⟨wr.heap.size, 1, none⟩ = some (.bool tie) := by
        rw [hw2, World.cell?_setCell_other _ _ _ _ (by simp)]
        exact cell_in (heap_alloc_new wr _) rfl
      have q18 : w2.cell? ⟨S, 18, none⟩ = some (.slice ua K uc) := HT2.out.cell HU.out.h18 (by simp)
      obtain ⟨ub, hua, hubS, hcu⟩ := HU.out.hus x hkK
      subst hua
      have qu : w2.cell? ⟨ub, x, none⟩ = some (.int .i64 (us.getD x 0)) := HT2.out.cell hcu (fun e => absurd e hubS)
      obtain ⟨u, hu⟩ : ∃ u, us.getD x 0 = u := ⟨_, rfl⟩
      rw [hu] at qu
      have HH : Hid (hits us (rs.getD k (0, false)) = (tie && (u == 1))) := by show hits _ _ = _; rw [HR.out]; simp [hits, ← hu, List.getD]
      have hx0 : (0 : Int) ≤ (x : Int) := by omega
      have hxK : (x : Int) < (K : Int) := by omega
      clear hw2 s2 s3 sf s23 s2a s3a sfa s23a g0 g1 HT1 hcu hu
      have hend : Hid ((tie && (u == 1)) = false → k < m) := fun hf => by
        rcases Nat.lt_or_ge k m with h | h
        · exact h
        · have : k = m := by omega
          subst this
          have h1 := HHIT.out hlt
          rw [HH.out, hf] at h1
          cases h1
      have hstop : Hid ((tie && (u == 1)) = true → k = m) := fun hf => by
        rcases Nat.lt_or_ge k m with h | h
        · have h1 := HLOW.out k h
          rw [HH.out, hf] at h1
          cases h1
        · omega
      cases tie with
      | false =>
        go_wp2_with fail
        go_quiet (fail)
        go_wp2
        go_roundw
        case rel => exact ⟨k + 1, by have := hend.out rfl; omega, by go_num, by rw [show t + ((k + 1 : Nat) : Int) = t + k + 1 by omega]; exact HT2.out.drew _⟩
        case measure => simp [intOf]; omega
      | true =>
        cases hu1 : (u == 1) with
        | false =>
          go_wp2_with fail
          go_quiet (fail)
          go_wp2
          go_roundw
          case rel => exact ⟨k + 1, by have := hend.out (by simp [hu1]); omega, by go_num, by rw [show t + ((k + 1 : Nat) : Int) = t + k + 1 by omega]; exact HT2.out.drew _⟩
          case measure => simp [intOf]; omega
        | true =>
          have hkm := hstop.out (by simp [hu1])
          subst hkm
          have HRS : Hid (res = x) := by have := HRES1.out hlt; rw [HR.out] at this; exact this
          go_wp2_with fail
          go_quiet (fail)
          go_wp2
          go_ret
          rw [HRS.out]
          exact ⟨rfl, _, by omega, by omega, HT2.out.drew _⟩
    · have HRS : Hid (res = -1) := HRES2.out (by omega)
      have HT1 : Hid (Tick S (t + k) w wr) := hT
      clear hT
      go_wp2
      go_ret
      rw [HRS.out]
      exact ⟨rfl, _, by omega, by omega, HT1.out⟩

theorem Tick.grow' {S : Nat} {t : Int} {w w1 w2 : World} (h : Tick S t w w1) (hS : S < w.heap.size) (hb : Below w.heap.size w1 w2) : Tick S t w w2 :=
  ⟨hb.os.trans h.os, hb.tape.trans h.tape, hb.output.trans h.output, Nat.le_trans h.size hb.size, fun k hk hne => by rw [hb.block k hk]; exact h.other k hk hne, fun c e fz hc => by rw [hb.block S hS]; exact h.self c e fz hc⟩

set_option maxHeartbeats 1000000 in
/-- waitOf where i was not tried and a knot refuses it. -/
theorem wait_refused (S : Nat) (i : Int) (t : Int) (kn : Nat) (mv : Value) (nb no nl nc tb to tl tc : Nat) (g m mc : Nat) (zs : List Int) (w : World)
    (hlk : ∀ w1, Tick S (t + 1) w w1 → (Instr.lookup 40 mv (.int .i64 i) true).run Yba.prog w1 = .ok (.tuple #[.int .i64 0, .bool false]) w1)
    (href : ∀ w1, Tick S (t + 1) w w1 → Calls Yba.prog 10 #[.pointer (some ⟨S, 18, none⟩), .int .i64 i] w1 fun e w' => e = .returned (.int .i64 kn) ∧ ∃ t', Tick S t' w w')
    (h0 : w.cell? ⟨S, 2, none⟩ = some (.int .i64 t)) (h1 : w.cell? ⟨S, 3, none⟩ = some (.int .i64 4611686018427387904)) (hf : w.frozen? ⟨S, 2, none⟩ = false) (ht0 : 0 ≤ t) (htt : t ≤ 1000000)
    (hn : w.cell? ⟨S, 20, none⟩ = some (.slice (some ⟨nb, no, none⟩) nl nc)) (ht : w.cell? ⟨S, 21, none⟩ = some (.slice (some ⟨tb, to, none⟩) tl tc))
    (hk1 : kn < nl) (hk2 : kn < tl) (hnl : nl ≤ 100000) (htl : tl ≤ 100000) (hnb : w.cell? ⟨nb, no + kn, none⟩ = some (.slice (some ⟨g, 0, none⟩) m mc)) (htb : w.cell? ⟨tb, to + kn, none⟩ = some (.int .i64 zs.length)) (hT : zs.length ≤ m) (hmm : m ≤ mc) (hmc : mc ≤ 1000000)
    (hz : ∀ j, j < zs.length → w.cell? ⟨g, j, none⟩ = some (.int .i64 (zs.getD j 0))) (hnS : nb ≠ S) (htS : tb ≠ S) (hgS : g ≠ S) :
    Calls Yba.prog 6 #[.pointer (some ⟨S, 0, none⟩), .int .i64 i, mv] w fun e w' => ∃ o av cv, e = .returned (.tuple #[.slice (some ⟨g, o, none⟩) (m - zs.length) (mc - zs.length), .slice av (but i zs zs.length).length cv, .bool true]) ∧ (zs.length < m → o = zs.length) ∧
      w'.ownsRow w.heap.size 3 1 (.slice av (but i zs zs.length).length cv) (but i zs zs.length).length ((but i zs zs.length).map (Value.int .i64)) ∧ ∃ t', Tick S t' w w' := by
  obtain ⟨i0, hi, hz0, hz1, hz2⟩ := info_parts Yba.info3
  have hS := World.block_lt_of_cell? _ _ h0
  have HI : Hid (Yba.prog.info? 3 = some i0 ∧ i0.zero = some (.int .i64 0) ∧ i0.size = 1 ∧ i0.bytes = 8) := ⟨hi, hz0, hz1, hz2⟩
  have HZ : Hid (∀ j, j < zs.length → w.cell? ⟨g, j, none⟩ = some (.int .i64 (zs.getD j 0))) := hz
  have HN : Hid (w.cell? ⟨S, 20, none⟩ = some (.slice (some ⟨nb, no, none⟩) nl nc)) := hn
  have HT : Hid (w.cell? ⟨S, 21, none⟩ = some (.slice (some ⟨tb, to, none⟩) tl tc)) := ht
  have HNB : Hid (w.cell? ⟨nb, no + kn, none⟩ = some (.slice (some ⟨g, 0, none⟩) m mc)) := hnb
  have HTB : Hid (w.cell? ⟨tb, to + kn, none⟩ = some (.int .i64 zs.length)) := htb
  have HREF : Hid (∀ w1, Tick S (t + 1) w w1 → Calls Yba.prog 10 #[.pointer (some ⟨S, 18, none⟩), .int .i64 i] w1 fun e w' => e = .returned (.int .i64 kn) ∧ ∃ t', Tick S t' w w') := href
  have HLK : Hid (∀ w1, Tick S (t + 1) w w1 → (Instr.lookup 40 mv (.int .i64 i) true).run Yba.prog w1 = .ok (.tuple #[.int .i64 0, .bool false]) w1) := hlk
  have hk0 : decide ((kn : Int) < 0) = false := by simp
  have hk0' : decide ((0 : Int) ≤ (kn : Int)) = true := by simp
  clear hi hz0 hz1 hz2 hz hn ht hnb htb href hlk
  go_enter Yba.func6, Yba.ntmps6
  go_wp2_with fail
  refine (take_any S 2 t w h0 h1 hf ht0 htt).mono ?_
  rintro e w1 ⟨rfl, n1, hw1⟩
  have HT1 : Hid (Tick S (t + 1) w w1) := by rw [hw1]; exact (Tick.refl h0).take n1
  clear hw1
  have hlk1 := HLK.out w1 HT1.out
  clear h0 h1 hf
  go_wp2_with fail
  refine (HREF.out w1 HT1.out).mono ?_
  rintro e W ⟨rfl, t2, hT2⟩
  clear hlk1
  have hnW : W.cell? ⟨S, 20, none⟩ = some (.slice (some ⟨nb, no, none⟩) nl nc) := hT2.cell HN.out (by simp)
  have htW : W.cell? ⟨S, 21, none⟩ = some (.slice (some ⟨tb, to, none⟩) tl tc) := hT2.cell HT.out (by simp)
  have hnbW : W.cell? ⟨nb, no + kn, none⟩ = some (.slice (some ⟨g, 0, none⟩) m mc) := hT2.cell HNB.out (fun e => absurd e hnS)
  have htbW : W.cell? ⟨tb, to + kn, none⟩ = some (.int .i64 zs.length) := hT2.cell HTB.out (fun e => absurd e htS)
  have HZW : Hid (∀ j, j < zs.length → W.cell? ⟨g, j, none⟩ = some (.int .i64 (zs.getD j 0))) := fun j hj => hT2.cell (HZ.out j hj) (fun e => absurd e hgS)
  have HSZ : Hid (w.heap.size ≤ W.heap.size) := hT2.size
  have HT2 : Hid (Tick S t2 w W) := hT2
  have HLT : Hid (∀ {b o : Nat} {u : Value}, w.cell? ⟨b, o, none⟩ = some u → b < w.heap.size) := fun {b o u} h => World.block_lt_of_cell? _ _ h
  clear hT2
  go_wp2_with fail
  refine (ties_any S kn nb no nl nc tb to tl tc g m mc zs.length W hnW htW hk1 hk2 hnl htl hnbW htbW hT hmm hmc).mono ?_
  rintro e w' ⟨rfl, n1, rfl⟩
  go_wp2_with fail
  have HW1 : Hid (∀ B, Below B W (W.drewN n1)) := fun B => ⟨rfl, rfl, rfl, Nat.le_refl _, fun _ _ => rfl⟩
  go_loopw [7, 49] (fun v q wr => ∃ k : Nat, k ≤ zs.length ∧ q = .int .i64 k ∧ wr.ownsRow w.heap.size 3 1 v (but i zs k).length ((but i zs k).map (Value.int .i64)) ∧ Below w.heap.size W wr)
    (fun _ q _ => zs.length - (intOf q).toNat)
  case atStart => exact ⟨0, Nat.zero_le _, rfl, World.ownsRow_nil _ _ _ _, HW1.out _⟩
  case round =>
    obtain ⟨k, hk, rfl, hown, hbel⟩ := hrel
    by_cases hlt : k < zs.length
    · obtain ⟨z, hzk⟩ : ∃ z, zs.getD k 0 = z := ⟨_, rfl⟩
      have hcx : wr.cell? ⟨g, k, none⟩ = some (.int .i64 z) := by
        rw [hbel.cell (p := ⟨g, k, none⟩) (HLT.out (HZ.out k hlt)), HZW.out k hlt, hzk]
      have hbl := but_le i zs k
      by_cases hz : (z != i) = true
      · have HM1 : Hid (but i zs (k + 1) = but i zs k ++ [z]) := by have := but_hit i zs k hlt (by rw [hzk]; exact hz); rw [hzk] at this; exact this
        clear hzk hnW htW hnbW htbW hk0 hk0' hk1 hk2
        have hws : w.heap.size ≤ wr.heap.size := Nat.le_trans HSZ.out hbel.size
        go_wp2_with (at_builtin; refine wpList_append_own _ rfl (.tmp 56) (.tmp 58) 22 rfl w.heap.size 3 i0 (.int .i64 0) 1 8 Yba.underlying22 HI.out.1 HI.out.2.1 HI.out.2.2.1 HI.out.2.2.2 rfl (by decide) _ _ _ rfl (hown.alloc _) ⟨wr.heap.size, 0, none⟩ 1 1 [.int .i64 z] rfl rfl (cell_one_new _ _ _) (ints_oneCell .i64 [z]) (by unfold maxLen; omega) (by omega) (by simp; omega) ?_; intro v' w1 hown' hgrow hnil)
        have hall := (World.grownBy_alloc wr (.cells #[.int .i64 z] 3) _).trans hgrow
        have hbel1 : Below w.heap.size W w1 := hbel.grown hall hws (fun j hj => (hown.lt j hj).1)
        clear hown hgrow hall hnil hbel
        go_wp2
        go_roundw
        case rel => exact ⟨k + 1, by omega, by go_num, by rw [HM1.out]; simpa using hown', hbel1⟩
        case measure => simp [intOf]; omega
      · have hz' : (z != i) = false := by simpa using hz
        have HM1 : Hid (but i zs (k + 1) = but i zs k) := but_miss i zs k hlt (by rw [hzk]; exact hz')
        clear hz hzk hnW htW hnbW htbW hk0 hk0' hk1 hk2
        go_wp2
        go_roundw
        case rel => exact ⟨k + 1, by omega, by go_num, by rw [HM1.out]; exact hown, hbel⟩
        case measure => simp [intOf]; omega
    · obtain rfl : k = zs.length := by omega
      obtain ⟨av, cv, rfl⟩ := shape_of hown
      go_wp2_with fail
      have b1 : wr.cell? ⟨S, 20, none⟩ = some (.slice (some ⟨nb, no, none⟩) nl nc) := by rw [hbel.cell (p := ⟨S, 20, none⟩) (HLT.out HN.out)]; exact hnW
      have b2 : wr.cell? ⟨S, 21, none⟩ = some (.slice (some ⟨tb, to, none⟩) tl tc) := by rw [hbel.cell (p := ⟨S, 21, none⟩) (HLT.out HT.out)]; exact htW
      have b3 : wr.cell? ⟨nb, no + kn, none⟩ = some (.slice (some ⟨g, 0, none⟩) m mc) := by rw [hbel.cell (p := ⟨nb, no + kn, none⟩) (HLT.out HNB.out)]; exact hnbW
      have b4 : wr.cell? ⟨tb, to + kn, none⟩ = some (.int .i64 zs.length) := by rw [hbel.cell (p := ⟨tb, to + kn, none⟩) (HLT.out HTB.out)]; exact htbW
      refine (members_any S kn nb no nl nc tb to tl tc g m mc zs.length wr b1 b2 hk1 hk2 hnl htl b3 b4 hT hmm hmc).mono ?_
      rintro e w' ⟨o, rfl, ho, n2, rfl⟩
      clear b1 b2 b3 b4 hnW htW hnbW htbW
      go_wp2
      go_ret3
      exact ⟨o, av, cv, rfl, ho, hown, t2, (HT2.out.grow' hS hbel).drew _⟩

/-- The same at a knot of the ties i, y1 and the one member y2. -/
theorem wait_three (S : Nat) (i : Int) (t : Int) (kn : Nat) (mv : Value) (nb nl tb tl : Nat) (g : Nat) (y1 y2 : Int) (w : World)
    (hlk : ∀ w1, Tick S (t + 1) w w1 → (Instr.lookup 40 mv (.int .i64 i) true).run Yba.prog w1 = .ok (.tuple #[.int .i64 0, .bool false]) w1)
    (href : ∀ w1, Tick S (t + 1) w w1 → Calls Yba.prog 10 #[.pointer (some ⟨S, 18, none⟩), .int .i64 i] w1 fun e w' => e = .returned (.int .i64 kn) ∧ ∃ t', Tick S t' w w')
    (h0 : w.cell? ⟨S, 2, none⟩ = some (.int .i64 t)) (h1 : w.cell? ⟨S, 3, none⟩ = some (.int .i64 4611686018427387904)) (hf : w.frozen? ⟨S, 2, none⟩ = false) (ht0 : 0 ≤ t) (htt : t ≤ 1000000)
    (hn : w.cell? ⟨S, 20, none⟩ = some (.slice (some ⟨nb, 0, none⟩) nl nl)) (ht : w.cell? ⟨S, 21, none⟩ = some (.slice (some ⟨tb, 0, none⟩) tl tl))
    (hk1 : kn < nl) (hk2 : kn < tl) (hnl : nl ≤ 100000) (htl : tl ≤ 100000) (hnb : w.cell? ⟨nb, kn, none⟩ = some (.slice (some ⟨g, 0, none⟩) 3 3)) (htb : w.cell? ⟨tb, kn, none⟩ = some (.int .i64 2))
    (hg : w.heap[g]? = some (.cells #[.int .i64 i, .int .i64 y1, .int .i64 y2] 3 (0, 0))) (hy : y1 ≠ i) (hnS : nb ≠ S) (htS : tb ≠ S) (hgS : g ≠ S) :
    Calls Yba.prog 6 #[.pointer (some ⟨S, 0, none⟩), .int .i64 i, mv] w fun e w' => ∃ ab cv, e = .returned (.tuple #[.slice (some ⟨g, 2, none⟩) 1 1, .slice (some ⟨ab, 0, none⟩) 1 cv, .bool true]) ∧ w'.cell? ⟨g, 2, none⟩ = some (.int .i64 y2) ∧ w'.cell? ⟨ab, 0, none⟩ = some (.int .i64 y1) ∧
      ∃ t', Tick S t' w w' := by
  have hcg : ∀ j, j < [i, y1].length → w.cell? ⟨g, j, none⟩ = some (.int .i64 ([i, y1].getD j 0)) := fun j hj => by
    match j, hj with
    | 0, _ => exact cell_in hg rfl
    | 1, _ => exact cell_in hg rfl
  have hb : but i [i, y1] 2 = [y1] := by simp [but, hy]
  refine (wait_refused S i t kn mv nb 0 nl nl tb 0 tl tl g 3 3 [i, y1] w hlk href h0 h1 hf ht0 htt hn ht hk1 hk2 hnl htl (by simpa using hnb) (by simpa using htb) (by simp) (by omega) (by omega) hcg hnS htS hgS).mono ?_
  rintro e w' ⟨o, av, cv, rfl, ho, hown, t', hT⟩
  have ho' : o = 2 := ho (by simp)
  subst ho'
  have e1 : (but i [i, y1] [i, y1].length).length = 1 := by show (but i [i, y1] 2).length = 1; rw [hb]; rfl
  have hown' : w'.ownsRow w.heap.size 3 1 (.slice av 1 cv) 1 [.int .i64 y1] := by
    have := hown
    rw [e1, show but i [i, y1] [i, y1].length = [y1] from hb] at this
    exact this
  rw [e1]
  rcases hown'.2 with ⟨_, h⟩ | ⟨g', cap, cur, hv, _⟩
  · omega
  · simp only [Value.slice.injEq] at hv
    obtain ⟨rfl, _, rfl⟩ := hv
    have hc := hown'.cells (g := g') rfl 0 (.int .i64 y1) rfl
    rw [Addr.add_lit] at hc
    exact ⟨g', cv, rfl, hT.cell (cell_in hg rfl) (fun e => absurd e hgS), hc, t', hT⟩

end Go.Proofs.Ybulkcogu
