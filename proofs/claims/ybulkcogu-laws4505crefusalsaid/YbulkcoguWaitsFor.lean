import Derived.Test.YbulkcoguPlain
namespace Go.Proofs.Ybulkcogu
open Go.RowKit Go.Deep
set_option linter.unusedVariables false
set_option linter.unusedSimpArgs false

/-- w' is w but for new blocks and the count of steps at cell 2 of block S. -/
structure Tick (S : Nat) (t : Int) (w w' : World) : Prop where
  os : w'.os = w.os
  tape : w'.tape = w.tape
  output : w'.output = w.output
  size : w.heap.size ≤ w'.heap.size
  other : ∀ k, k < w.heap.size → k ≠ S → w'.heap[k]? = w.heap[k]?
  self : ∀ c e fz, w.heap[S]? = some (.cells c e fz) → w'.heap[S]? = some (.cells (c.setIfInBounds 2 (.int .i64 t)) e fz)

theorem set_set (c : Array Value) (i : Nat) (u v : Value) : (c.setIfInBounds i u).setIfInBounds i v = c.setIfInBounds i v := by
  simp

theorem set_self (c : Array Value) (i : Nat) (u : Value) (h : c[i]? = some u) : c.setIfInBounds i u = c := by
  apply Array.ext_getElem?
  intro j
  rw [Array.getElem?_setIfInBounds]
  split
  · rename_i hij
    subst hij
    rw [if_pos (Array.getElem?_eq_some_iff.1 h).1, h]
  · rfl

theorem Tick.refl {S : Nat} {t : Int} {w : World} (h : w.cell? ⟨S, 2, none⟩ = some (.int .i64 t)) : Tick S t w w :=
  ⟨rfl, rfl, rfl, Nat.le_refl _, fun _ _ _ => rfl, fun c e fz hc => by
    simp [World.cell?, hc] at h
    rw [set_self c 2 _ h, hc]⟩

theorem Tick.take {S : Nat} {t t' : Int} {w w1 : World} (h : Tick S t w w1) (n : Nat) : Tick S t' w ((w1.drewN n).setCell ⟨S, 2, none⟩ (.int .i64 t')) := by
  refine ⟨h.os, h.tape, h.output, by simpa [World.setCell] using h.size, fun k hk hs => ?_, fun c e fz hc => ?_⟩
  · rw [Below.heap_setCell _ _ _ _ hs]; exact h.other k hk hs
  · rw [heap_set_same (w := w1.drewN n) (c := c.setIfInBounds 2 (.int .i64 t)) (e := e) (fz := fz) (h.self c e fz hc), set_set]

theorem Tick.grow {S : Nat} {t : Int} {w w1 w2 : World} (h : Tick S t w w1) (hS : S < w.heap.size) (hb : Below w1.heap.size w1 w2) : Tick S t w w2 := by
  have hs := h.size
  refine ⟨hb.os.trans h.os, hb.tape.trans h.tape, hb.output.trans h.output, Nat.le_trans h.size hb.size, fun k hk hne => ?_, fun c e fz hc => ?_⟩
  · rw [hb.block k (by omega)]; exact h.other k hk hne
  · rw [hb.block S (by omega)]; exact h.self c e fz hc

theorem Tick.alloc {S : Nat} {t : Int} {w w1 : World} (h : Tick S t w w1) (hS : S < w.heap.size) (o : Obj) : Tick S t w (w1.alloc o) :=
  h.grow hS ((Below.refl _ _).alloc (Nat.le_refl _) o)

theorem Tick.drew {S : Nat} {t : Int} {w w1 : World} (h : Tick S t w w1) (n : Nat) : Tick S t w (w1.drewN n) :=
  ⟨h.os, h.tape, h.output, h.size, h.other, h.self⟩

theorem Tick.trans {S : Nat} {t t' : Int} {w w1 w2 : World} (h : Tick S t w w1) (k : Tick S t' w1 w2) : Tick S t' w w2 := by
  have hs := h.size
  refine ⟨k.os.trans h.os, k.tape.trans h.tape, k.output.trans h.output, Nat.le_trans h.size k.size, fun j hj hne => ?_, fun c e fz hc => ?_⟩
  · rw [k.other j (by omega) hne]; exact h.other j hj hne
  · rw [k.self _ e fz (h.self c e fz hc), set_set]

theorem Tick.cell {S : Nat} {t : Int} {w w' : World} (h : Tick S t w w') {b o : Nat} {u : Value} (hc : w.cell? ⟨b, o, none⟩ = some u) (hne : b = S → o ≠ 2) : w'.cell? ⟨b, o, none⟩ = some u := by
  have hlt := World.block_lt_of_cell? _ _ hc
  by_cases hb : b = S
  · subst hb
    cases hh : w.heap[b]? with
    | none => simp [World.cell?, hh] at hc
    | some ob =>
      cases ob with
      | cells c e fz =>
        simp [World.cell?, hh] at hc
        refine cell_in (h.self c e fz hh) ?_
        rw [Array.getElem?_setIfInBounds, if_neg (fun e => hne rfl e.symm)]
        exact hc
      | _ => simp [World.cell?, hh] at hc
  · rw [World.cell?_of_block (w := w) (h.other b hlt hb)]; exact hc

theorem Tick.step {S : Nat} {t : Int} {w w' : World} (h : Tick S t w w') {u : Value} (hc : w.cell? ⟨S, 2, none⟩ = some u) : w'.cell? ⟨S, 2, none⟩ = some (.int .i64 t) := by
  cases hh : w.heap[S]? with
  | none => simp [World.cell?, hh] at hc
  | some ob =>
    cases ob with
    | cells c e fz =>
      simp [World.cell?, hh] at hc
      refine cell_in (h.self c e fz hh) ?_
      have := (Array.getElem?_eq_some_iff.1 hc).1
      simp [this]
    | _ => simp [World.cell?, hh] at hc

theorem Tick.free {S : Nat} {t : Int} {w w' : World} (h : Tick S t w w') {u : Value} (hc : w.cell? ⟨S, 2, none⟩ = some u) (hf : w.frozen? ⟨S, 2, none⟩ = false) : w'.frozen? ⟨S, 2, none⟩ = false := by
  cases hh : w.heap[S]? with
  | none => simp [World.cell?, hh] at hc
  | some ob =>
    cases ob with
    | cells c e fz =>
      simp [World.frozen?, hh] at hf
      simp [World.frozen?, h.self c e fz hh]
      exact hf
    | _ => simp [World.cell?, hh] at hc

theorem Tick.below {S : Nat} {t : Int} {w w' : World} (h : Tick S t w w') {B : Nat} (hB : B ≤ S) (hw : B ≤ w.heap.size) : Below B w w' :=
  ⟨h.os, h.tape, h.output, h.size, fun k hk => h.other k (by omega) (by omega)⟩

/-- A read that is waited for: of a writer that is not placed. -/
def good (pl : List Bool) (f : Int) : Bool := decide (0 ≤ f) && !(pl.getD f.toNat false)

set_option maxHeartbeats 1000000 in
theorem wf_any (S C R Wb P : Nat) (n v : Nat) (t : Int) (fs : List Int) (pl : List Bool) (ra : Option Addr) (rc : Nat) (m : Nat) (w : World)
    (h0 : w.cell? ⟨S, 0, none⟩ = some (.pointer (some ⟨C, 0, none⟩))) (h2 : w.cell? ⟨S, 2, none⟩ = some (.int .i64 t)) (h3 : w.cell? ⟨S, 3, none⟩ = some (.int .i64 4611686018427387904)) (f2 : w.frozen? ⟨S, 2, none⟩ = false)
    (h4 : w.cell? ⟨S, 4, none⟩ = some (.slice (some ⟨P, 0, none⟩) n n)) (k1 : w.cell? ⟨C, 1, none⟩ = some (.slice (some ⟨R, 0, none⟩) n n)) (k2 : w.cell? ⟨C, 2, none⟩ = some (.slice (some ⟨Wb, 0, none⟩) n n))
    (hr : w.cell? ⟨R, v, none⟩ = some (.slice ra fs.length rc)) (hw : w.cell? ⟨Wb, v, none⟩ = some (.slice none 0 0))
    (hfs : ∀ k, k < fs.length → ∃ b, ra = some ⟨b, 0, none⟩ ∧ b ≠ S ∧ w.cell? ⟨b, k * 2, none⟩ = some (.int .i64 0) ∧ w.cell? ⟨b, k * 2 + 1, none⟩ = some (.int .i64 (fs.getD k 0)))
    (hpl : ∀ x, x < n → w.cell? ⟨P, x, none⟩ = some (.bool (pl.getD x false))) (hb : ∀ k, k < fs.length → fs.getD k 0 < n) (hvn : v < n) (hn : n ≤ 2000) (hl : fs.length ≤ 2000) (ht0 : 0 ≤ t) (ht : t ≤ 500000)
    (hC : C ≠ S) (hR : R ≠ S) (hW : Wb ≠ S) (hP : P ≠ S) (hm : m ≤ fs.length) (hlow : ∀ j, j < m → good pl (fs.getD j 0) = false) (hhit : m < fs.length → good pl (fs.getD m 0) = true)
    (res : Value) (hres1 : m < fs.length → res = .tuple #[.int .i64 (fs.getD m 0), .int .i64 (-1), .bool true]) (hres2 : ¬ m < fs.length → res = .tuple #[.int .i64 (-1), .int .i64 (-1), .bool false]) :
    Calls Yba.prog 13 #[.pointer (some ⟨S, 0, none⟩), .int .i64 v] w fun e w' => e = .returned res ∧ ∃ t', Tick S t' w w' := by
  have HRES1 : Hid (m < fs.length → res = .tuple #[.int .i64 (fs.getD m 0), .int .i64 (-1), .bool true]) := hres1
  have HRES2 : Hid (¬ m < fs.length → res = .tuple #[.int .i64 (-1), .int .i64 (-1), .bool false]) := hres2
  clear hres1 hres2
  have hS := World.block_lt_of_cell? _ _ h2
  have HFS : Hid (∀ k, k < fs.length → ∃ b, ra = some ⟨b, 0, none⟩ ∧ b ≠ S ∧ w.cell? ⟨b, k * 2, none⟩ = some (.int .i64 0) ∧ w.cell? ⟨b, k * 2 + 1, none⟩ = some (.int .i64 (fs.getD k 0))) := hfs
  have HPL : Hid (∀ x, x < n → w.cell? ⟨P, x, none⟩ = some (.bool (pl.getD x false))) := hpl
  have HB : Hid (∀ k, k < fs.length → fs.getD k 0 < n) := hb
  have HLOW : Hid (∀ j, j < m → good pl (fs.getD j 0) = false) := hlow
  have HHIT : Hid (m < fs.length → good pl (fs.getD m 0) = true) := hhit
  clear hfs hpl hb hlow hhit
  go_enter Yba.func13, Yba.ntmps13
  go_wp2
  have H2 : Hid (w.cell? ⟨S, 2, none⟩ = some (.int .i64 t)) := h2
  have H3 : Hid (w.cell? ⟨S, 3, none⟩ = some (.int .i64 4611686018427387904)) := h3
  have H0 : Hid (w.cell? ⟨S, 0, none⟩ = some (.pointer (some ⟨C, 0, none⟩))) := h0
  have H4 : Hid (w.cell? ⟨S, 4, none⟩ = some (.slice (some ⟨P, 0, none⟩) n n)) := h4
  have F2 : Hid (w.frozen? ⟨S, 2, none⟩ = false) := f2
  have K2 : Hid (w.cell? ⟨C, 2, none⟩ = some (.slice (some ⟨Wb, 0, none⟩) n n)) := k2
  have HW : Hid (w.cell? ⟨Wb, v, none⟩ = some (.slice none 0 0)) := hw
  have HT : Hid (Tick S t w w) := Tick.refl h2
  clear h0 h2 h3 h4 f2 k1 k2 hr hw
  go_loopw [28] (fun q wr => ∃ k : Nat, k ≤ m ∧ q = .int .i64 k ∧ Tick S (t + k) w wr) (fun q _ => fs.length - (intOf q).toNat)
  case atStart => exact ⟨0, Nat.zero_le _, rfl, by simpa using HT.out⟩
  case round =>
    obtain ⟨k, hk, rfl, hT⟩ := hrel
    by_cases hlt : k < fs.length
    · obtain ⟨b, hra, hbS, hc0, hc1⟩ := HFS.out k hlt
      subst hra
      have hfn := HB.out k hlt
      obtain ⟨f, hf⟩ : ∃ f, fs.getD k 0 = f := ⟨_, rfl⟩
      rw [hf] at hc1 hfn
      have g0 : wr.cell? ⟨b, k * 2, none⟩ = some (.int .i64 0) := hT.cell hc0 (fun e => absurd e hbS)
      have g1 : wr.cell? ⟨b, k * 2 + 1, none⟩ = some (.int .i64 f) := hT.cell hc1 (fun e => absurd e hbS)
      have s2 := hT.step H2.out
      have s3 := hT.cell H3.out (by simp)
      have s4 := hT.cell H4.out (by simp)
      have sf := hT.free H2.out F2.out
      have hwS : S < wr.heap.size := World.block_lt_of_cell? _ _ s2
      have s2a : ∀ o, (wr.alloc o).cell? ⟨S, 2, none⟩ = some (.int .i64 (t + k)) := fun o => by rw [World.cell?_of_block (w := wr) (Below.heap_alloc _ _ _ hwS)]; exact s2
      have s3a : ∀ o, (wr.alloc o).cell? ⟨S, 3, none⟩ = some (.int .i64 4611686018427387904) := fun o => by rw [World.cell?_of_block (w := wr) (Below.heap_alloc _ _ _ hwS)]; exact s3
      have sfa : ∀ o, (wr.alloc o).frozen? ⟨S, 2, none⟩ = false := fun o => by rw [World.frozen?_of_block (w := wr) (Below.heap_alloc _ _ _ hwS)]; exact sf
      clear hc0 hc1
      have HT1 : Hid (Tick S (t + k) w wr) := hT
      clear hT
      go_wp2_with fail
      refine (take_any S 2 (t + k) _ (by exact s2a _) (by exact s3a _) (by exact sfa _) (by omega) (by omega)).mono ?_
      rintro e w2 ⟨rfl, n1, hw2⟩
      have HT2 : Hid (Tick S (t + k + 1) w w2) := by rw [hw2]; exact (HT1.out.alloc hS _).take n1
      have q0 : w2.cell? ⟨wr.heap.size, 1, none⟩ = some (.int .i64 f) := by
        rw [hw2, World.cell?_setCell_other _ _ _ _ (by simp)]
        exact cell_in (heap_alloc_new wr _) rfl
      have q4 : w2.cell? ⟨S, 4, none⟩ = some (.slice (some ⟨P, 0, none⟩) n n) := HT2.out.cell H4.out (by simp)
      clear hw2 s2 s3 s4 sf s2a s3a sfa g0 g1 HT1
      by_cases hf0 : 0 ≤ f
      · obtain ⟨x, rfl⟩ : ∃ x : Nat, f = x := ⟨f.toNat, by omega⟩
        have hxn : x < n := by omega
        have qp : w2.cell? ⟨P, x, none⟩ = some (.bool (pl.getD x false)) := HT2.out.cell (HPL.out x hxn) (fun e => absurd e hP)
        obtain ⟨pb, hpb⟩ : ∃ pb, pl.getD x false = pb := ⟨_, rfl⟩
        rw [hpb] at qp
        have HGK : Hid (good pl (fs.getD k 0) = !pb) := by show good pl _ = _; rw [hf]; simp [good, ← hpb, List.getD]
        have HF : Hid (fs.getD k 0 = x) := hf
        clear hf hpb
        have hd : decide ((0 : Int) ≤ (x : Int)) = true := by simp
        cases pb with
        | true =>
          go_wp2_with fail
          go_quiet (fail)
          go_wp2
          go_roundw
          case rel =>
            have hkm : k < m := by
              rcases Nat.lt_or_ge k m with h | h
              · exact h
              · have : k = m := by omega
                subst this
                have h1 := HHIT.out hlt
                have h2 := HGK.out
                rw [h2] at h1
                simp at h1
            exact ⟨k + 1, by omega, by go_num, by rw [show t + ((k + 1 : Nat) : Int) = t + k + 1 by omega]; exact HT2.out.drew _⟩
          case measure => simp [intOf]; omega
        | false =>
          have hkm : k = m := by
            rcases Nat.lt_or_ge k m with h | h
            · have h1 := HLOW.out k h
              have h2 := HGK.out
              rw [h2] at h1
              simp at h1
            · omega
          subst hkm
          have HR : Hid (res = .tuple #[.int .i64 x, .int .i64 (-1), .bool true]) := by have := HRES1.out hlt; rw [HF.out] at this; exact this
          go_wp2_with fail
          go_quiet (fail)
          go_wp2
          go_ret3
          rw [HR.out]
          exact ⟨rfl, _, HT2.out.drew _⟩
      · have hd : decide ((0 : Int) ≤ f) = false := by simpa using hf0
        have HGK : Hid (good pl (fs.getD k 0) = false) := by show good pl _ = _; rw [hf]; simp [good, hd]
        clear hf
        go_wp2_with fail
        go_quiet (fail)
        go_wp2
        go_roundw
        case rel =>
          have hkm : k < m := by
            rcases Nat.lt_or_ge k m with h | h
            · exact h
            · have : k = m := by omega
              subst this
              have h1 := HHIT.out hlt
              have h2 := HGK.out
              rw [h2] at h1
              simp at h1
          exact ⟨k + 1, by omega, by go_num, by rw [show t + ((k + 1 : Nat) : Int) = t + k + 1 by omega]; exact HT2.out.drew _⟩
        case measure => simp [intOf]; omega
    · have HR : Hid (res = .tuple #[.int .i64 (-1), .int .i64 (-1), .bool false]) := HRES2.out (by omega)
      have s0 := hT.cell H0.out (by simp)
      have s2 := hT.cell K2.out (fun e => absurd e hC)
      have sw := hT.cell HW.out (fun e => absurd e hW)
      have HT1 : Hid (Tick S (t + k) w wr) := hT
      clear hT
      go_wp2
      refine wp_loop_rounds 1 ?_
      rw [rounds_succ]
      go_wp2
      go_ret3
      rw [HR.out]
      exact ⟨rfl, _, HT1.out⟩

end Go.Proofs.Ybulkcogu
