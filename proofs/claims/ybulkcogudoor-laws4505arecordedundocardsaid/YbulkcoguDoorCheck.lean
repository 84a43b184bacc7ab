import Derived.Test.YbulkcoguDoorBlk
import Derived.Test.YbulkcoguDoorPlace
namespace Go.Proofs.YbulkcoguDoor
open Go.RowKit Go.Deep
set_option linter.unusedVariables false
set_option linter.unusedSimpArgs false

/-- 64-bit words at a. -/
def AtU64 (w : World) (a : Option Addr) (xs : List Nat) : Prop := ∀ j, j < xs.length → ∃ b o, a = some ⟨b, o, none⟩ ∧ b < w.heap.size ∧ xs.getD j 0 < 18446744073709551616 ∧ w.cell? ⟨b, o + j, none⟩ = some (.int .u64 (xs.getD j 0 : Nat))

/-- Small ints at a. -/
def AtI8 (w : World) (a : Option Addr) (xs : List Int) : Prop := ∀ j, j < xs.length → ∃ b o, a = some ⟨b, o, none⟩ ∧ b < w.heap.size ∧ (-128 ≤ xs.getD j 0 ∧ xs.getD j 0 ≤ 127) ∧ w.cell? ⟨b, o + j, none⟩ = some (.int .i8 (xs.getD j 0))

/-- What the law hands in, and what the closure was built of. -/
structure Told (L : Lay) (rm ad : List Nat) (wa : List Int) (wait : Nat → Int) : Prop where
  rd : ∀ i, i < L.m → ∀ g, g < L.s → (L.rd i).contains g = (decide (i < rm.length) && (rm.getD i 0).testBit g)
  add : ∀ v, v < L.n → L.add v = if v < ad.length then (ad.getD v 0) &&& (2 ^ L.n - 1) else 0
  add0 : ∀ v, L.n ≤ v → L.add v = 0
  wait : ∀ u, wait u = if u < wa.length then wa.getD u 0 else 0

theorem Below.cells {B : Nat} {w w' : World} (h : Below B w w') {b o : Nat} (hb : b < B) {v : Value} (hc : w.cell? ⟨b, o, none⟩ = some v) : w'.cell? ⟨b, o, none⟩ = some v := (h.cell (p := ⟨b, o, none⟩) hb).trans hc

theorem full_wrap (k : Nat) (hk : k ≤ 9) : IntKind.u64.wrap (IntKind.u64.wrap ((2 : Int) ^ k) - 1) = ((2 ^ k - 1 : Nat) : Int) := by
  have : k = 0 ∨ k = 1 ∨ k = 2 ∨ k = 3 ∨ k = 4 ∨ k = 5 ∨ k = 6 ∨ k = 7 ∨ k = 8 ∨ k = 9 := by omega
  rcases this with rfl | rfl | rfl | rfl | rfl | rfl | rfl | rfl | rfl | rfl <;> rfl

def u8Ok (x g : Nat) : Bool := (bits BinOp.and IntKind.u8 ((x : Int) / 2 ^ g) 1 == 1) == x.testBit g

theorem bit_u8 {x g : Nat} (hx : x < 256) (hg : g < 3) : (bits BinOp.and IntKind.u8 ((x : Int) / 2 ^ g) 1 == 1) = x.testBit g := by
  have h : ((List.range 256).all fun x => (List.range 3).all fun g => u8Ok x g) = true := by decide +kernel
  have := List.all_eq_true.1 (List.all_eq_true.1 h x (List.mem_range.2 hx)) g (List.mem_range.2 hg)
  simpa [u8Ok] using this

theorem bit_u64 {x u : Nat} (hx : x < 18446744073709551616) : (bits BinOp.and IntKind.u64 ((x : Int) / 2 ^ u) 1 == 1) = x.testBit u := by
  have e : (x : Int) / 2 ^ u = ((x / 2 ^ u : Nat) : Int) := by simp
  have h := bits_and_u64_nat (x / 2 ^ u) 1 (Nat.lt_of_le_of_lt (Nat.div_le_self _ _) hx) (by omega)
  rw [e]
  have h1 : ((1 : Nat) : Int) = 1 := rfl
  rw [h1] at h
  rw [h, Nat.testBit_eq_decide_div_mod_eq, Nat.and_one_is_mod]
  by_cases hb : x / 2 ^ u % 2 = 1
  · simp [hb]
  · have : x / 2 ^ u % 2 = 0 := by omega
    simp [this]

def orOk (x v : Nat) : Bool := (bits BinOp.or IntKind.u64 ((x % 2 ^ v : Nat) : Int) ((2 ^ v : Nat) : Int) == ((x % 2 ^ (v + 1) : Nat) : Int)) || !x.testBit v
def noOk (x v : Nat) : Bool := (x % 2 ^ v == x % 2 ^ (v + 1)) || x.testBit v

theorem or_at {x v : Nat} (hx : x < 512) (hv : v < 9) (hb : x.testBit v = true) : bits BinOp.or IntKind.u64 ((x % 2 ^ v : Nat) : Int) ((2 ^ v : Nat) : Int) = ((x % 2 ^ (v + 1) : Nat) : Int) := by
  have h : ((List.range 512).all fun x => (List.range 9).all fun v => orOk x v) = true := by decide +kernel
  have := List.all_eq_true.1 (List.all_eq_true.1 h x (List.mem_range.2 hx)) v (List.mem_range.2 hv)
  simpa [orOk, hb] using this

theorem no_at {x v : Nat} (hx : x < 512) (hv : v < 9) (hb : x.testBit v = false) : x % 2 ^ v = x % 2 ^ (v + 1) := by
  have h : ((List.range 512).all fun x => (List.range 9).all fun v => noOk x v) = true := by decide +kernel
  have := List.all_eq_true.1 (List.all_eq_true.1 h x (List.mem_range.2 hx)) v (List.mem_range.2 hv)
  simpa [noOk, hb] using this

theorem wrap_pow9 (v : Nat) (hv : v < 9) : IntKind.u64.wrap ((2 : Int) ^ v) = ((2 ^ v : Nat) : Int) := wrap_pow v hv

theorem sumW_beyond {f : Nat → Int} {n : Nat} : ∀ {k : Nat}, n ≤ k → (∀ v, n ≤ v → f v = 0) → sumW f k = sumW f n
  | 0, h, _ => by obtain rfl : n = 0 := by omega
                  rfl
  | k + 1, h, h0 => by
    by_cases e : n = k + 1
    · subst e; rfl
    · simp only [sumW]
      rw [sumW_beyond (by omega) h0, h0 k (by omega)]
      omega

def kcut (rd : Nat → List Nat) (m : Nat) (pl : List Nat) (g : Nat) : Bool := decide (0 < Cn rd m g) && decide (Pn rd m pl g = Cn rd m g)

def Kf (rd : Nat → List Nat) (m : Nat) (pl : List Nat) (g v : Nat) : Bool := pl.contains v || (decide (m ≤ v) && decide (v < m + g) && kcut rd m pl (v - m))

set_option maxRecDepth 100000 in
set_option maxHeartbeats 4000000 in
theorem check_any {L : Lay} (G : Good L) {st : St} {w : World} (h : Sta L st w) (rm ad : List Nat) (wa : List Int) (wait : Nat → Int) (T : Told L rm ad wa wait) (hInv : Inv L.add L.rd wait L.m L.s st.pl st.ps)
    (a3 a4 a5 a6 : Option Addr) (c3 c4 c5 c6 : Nat) (h3 : AtB8 w a3 rm) (h4 : AtU64 w a4 ad) (h5 : AtI8 w a5 wa) (h6 : AtI w a6 st.pl) (h6l : ∀ b o, a6 = some ⟨b, o, none⟩ → b < w.heap.size) (hpm : ∀ v ∈ st.pl, v < L.m) (hpl : st.pl.length ≤ 6) :
    Calls Ybad.prog 9 #[.pointer (some ⟨L.K, 0, none⟩), .int .i64 L.m, .int .i64 L.s, .slice a3 rm.length c3, .slice a4 ad.length c4, .slice a5 wa.length c5, .slice a6 st.pl.length c6] w fun e w' => e = .returned (.bool true) ∧ Below w.heap.size w w' := by
  have hn : L.n ≤ 9 := by have := G.m6; have := G.s3; unfold Lay.n; omega
  have hm6 := G.m6
  have hm1 := G.m1
  have hs3 := G.s3
  have HS : Hid (Sta L st w) := h
  have H3 : Hid (AtB8 w a3 rm) := h3
  have H4 : Hid (AtU64 w a4 ad) := h4
  have H5 : Hid (AtI8 w a5 wa) := h5
  have H6 : Hid (AtI w a6 st.pl) := h6
  have H6L : Hid (∀ b o, a6 = some ⟨b, o, none⟩ → b < w.heap.size) := h6l
  have HPM : Hid (∀ v ∈ st.pl, v < L.m) := hpm
  have HT : Hid (Told L rm ad wa wait) := T
  have HV : Hid (Inv L.add L.rd wait L.m L.s st.pl st.ps) := hInv
  obtain ⟨m, hm⟩ : ∃ m, L.m = m := ⟨_, rfl⟩
  obtain ⟨s, hs⟩ : ∃ s, L.s = s := ⟨_, rfl⟩
  obtain ⟨l3, hl3⟩ : ∃ l, rm.length = l := ⟨_, rfl⟩
  obtain ⟨l4, hl4⟩ : ∃ l, ad.length = l := ⟨_, rfl⟩
  obtain ⟨l5, hl5⟩ : ∃ l, wa.length = l := ⟨_, rfl⟩
  obtain ⟨l6, hl6⟩ : ∃ l, st.pl.length = l := ⟨_, rfl⟩
  have HM : Hid (L.m = m) := hm
  have HSs : Hid (L.s = s) := hs
  have HL3 : Hid (rm.length = l3) := hl3
  have HL4 : Hid (ad.length = l4) := hl4
  have HL5 : Hid (wa.length = l5) := hl5
  have HL6 : Hid (st.pl.length = l6) := hl6
  have HNE : Hid (L.n = m + s) := by show _ = _; rw [← hm, ← hs]; rfl
  have hns : m + s ≤ 9 := by rw [← hm, ← hs]; exact hn
  rw [hm] at hm6 hm1
  rw [hs] at hs3
  rw [hl6] at hpl
  rw [hm, hs, hl3, hl4, hl5, hl6]
  clear h h3 h4 h5 h6 T hInv hn hm hs hl3 hl4 hl5 hl6 hpm h6l
  obtain ⟨N, hN⟩ : ∃ N, m + s = N := ⟨_, rfl⟩
  have hNI : (m : Int) + (s : Int) = (N : Int) := by omega
  have HN : Hid (m + s = N) := hN
  rw [hN] at hns HNE
  have hfw := full_wrap N hns
  obtain ⟨F, hF⟩ : ∃ F, 2 ^ N - 1 = F := ⟨_, rfl⟩
  have HF : Hid (2 ^ N - 1 = F) := hF
  rw [hF] at hfw
  obtain ⟨bP, hbP⟩ : ∃ b, b = w.heap.size := ⟨_, rfl⟩
  have HBP : Hid (bP = w.heap.size) := hbP
  have HB16 : Hid (∀ w : World, Blk (w.alloc (Obj.cells #[Value.bool false, Value.bool false, Value.bool false, Value.bool false, Value.bool false, Value.bool false, Value.bool false, Value.bool false, Value.bool false, Value.bool false, Value.bool false, Value.bool false, Value.bool false, Value.bool false, Value.bool false, Value.bool false] 57)) w.heap.size 57 16 (fun _ => .bool false)) := Blk.sixteen
  have HK : Hid (w.cell? ⟨L.K, 10, none⟩ = some (.slice (some ⟨L.bG, 0, none⟩) s s) ∧ L.K < w.heap.size ∧ L.bG < w.heap.size ∧ L.bB < w.heap.size ∧ L.bW < w.heap.size ∧ w.cell? ⟨L.K, 4, none⟩ = some (.slice (some ⟨L.bB, 0, none⟩) (2 * N + 1) (2 * N + 1)) ∧ w.cell? ⟨L.K, 9, none⟩ = some (.slice (some ⟨L.bW, 0, none⟩) N N) ∧ w.cell? ⟨L.K, 17, none⟩ = some st.vp) := by
    have hs := HS.out
    have hz := hs.core.fix.size
    have k4 := hs.core.fix.k G (o := 4) rfl
    have k9 := hs.core.fix.k G (o := 9) rfl
    have k10 := hs.core.fix.k G (o := 10) rfl
    rw [HNE.out] at k4 k9
    rw [HSs.out] at k10
    exact ⟨k10, Nat.lt_of_lt_of_le G.Kl hz, Nat.lt_of_lt_of_le G.Gl hz, Nat.lt_of_lt_of_le G.Bl hz, Nat.lt_of_lt_of_le G.Wl hz, k4, k9, hs.core.kd 17 _ rfl⟩
  go_enter Ybad.func9, Ybad.ntmps9
  go_wp2
  rw [← hbP]
  clear hbP hN hF
  go_loopw [40] (fun q wr => ∃ k : Nat, k ≤ l6 ∧ q = .int .i64 k ∧ Blk wr bP 57 16 (fun v => .bool ((st.pl.take k).contains v)) ∧ Blk wr (bP + 1) 57 16 (fun v => .bool ((st.pl.take k).contains v)) ∧ Below w.heap.size w wr) (fun q _ => l6 - (intOf q).toNat)
  case atStart =>
    have hbp := HBP.out
    refine ⟨0, Nat.zero_le _, rfl, ?_, ?_, ?_⟩
    · rw [hbp]; exact ((HB16.out w).alloc _).congr (fun j _ => by simp)
    · have := HB16.out (w.alloc (Obj.cells #[Value.bool false, Value.bool false, Value.bool false, Value.bool false, Value.bool false, Value.bool false, Value.bool false, Value.bool false, Value.bool false, Value.bool false, Value.bool false, Value.bool false, Value.bool false, Value.bool false, Value.bool false, Value.bool false] 57))
      rw [World.size_alloc, ← hbp] at this
      exact this.congr (fun j _ => by simp)
    · exact ((Below.refl _ w).alloc (Nat.le_refl _) _).alloc (by simp) _
  case round =>
    obtain ⟨k, hk, rfl, hP, hK, hB⟩ := hrel
    have HP : Hid (Blk wr bP 57 16 (fun v => .bool ((st.pl.take k).contains v))) := hP
    have HKb : Hid (Blk wr (bP + 1) 57 16 (fun v => .bool ((st.pl.take k).contains v))) := hK
    have HB : Hid (Below w.heap.size w wr) := hB
    by_cases hlt : k < l6
    · obtain ⟨b, o, hb, cc⟩ := H6.out k (by rw [HL6.out]; exact hlt)
      have hbl := H6L.out b o hb
      have cw := Below.cells hB hbl cc
      obtain ⟨i, hi⟩ : ∃ i, st.pl.getD k 0 = i := ⟨_, rfl⟩
      have hkl : k < st.pl.length := by rw [HL6.out]; exact hlt
      have him : i < m := by rw [← HM.out, ← hi]; exact HPM.out _ (by simp [hkl])
      have HI : Hid (st.pl.getD k 0 = i) := hi
      rw [hi] at cw
      have cP := hP.cell (j := i) (by omega)
      have cK := hK.cell (j := i) (by omega)
      have fP := hP.free i
      have fK := hK.free i
      subst hb
      clear hP hK hB cc hi
      go_wp2
      go_roundw
      case rel =>
        have e : ∀ v, ((st.pl.take (k + 1)).contains v) = if v = i then true else (st.pl.take k).contains v := fun v => by
          have hg : st.pl[k] = i := by have := HI.out; simpa [hkl] using this
          rw [List.take_succ_eq_append_getElem hkl, hg]
          by_cases hv : v = i
          · subst hv; simp
          · simp [hv]
        refine ⟨k + 1, by omega, by go_num, ?_, ?_, ?_⟩
        · exact ((HP.out.set i (.bool true)).other (by omega) _).congr (fun j _ => by unfold updV; rw [e]; split <;> rfl)
        · exact ((HKb.out.other (by omega) _).set i (.bool true)).congr (fun j _ => by unfold updV; rw [e]; split <;> rfl)
        · have hbp := HBP.out
          exact (HB.out.setCell (p := ⟨bP, i, none⟩) (by show _ ≤ bP; omega) _).setCell (p := ⟨bP + 1, i, none⟩) (by show _ ≤ bP + 1; omega) _
      case measure => simp [intOf]; omega
    · obtain rfl : k = l6 := by omega
      obtain ⟨wz, hwz⟩ : ∃ wz, wz = wr := ⟨_, rfl⟩
      have hct : st.pl.take k = st.pl := by rw [List.take_of_length_le]; rw [HL6.out]; exact Nat.le_refl _
      have HP2 : Hid (Blk wz bP 57 16 (fun v => .bool (st.pl.contains v))) := by rw [hwz]; have := HP.out; rw [hct] at this; exact this
      have HK2 : Hid (Blk wz (bP + 1) 57 16 (fun v => .bool (st.pl.contains v))) := by rw [hwz]; have := HKb.out; rw [hct] at this; exact this
      have HB2 : Hid (Below w.heap.size w wz) := by rw [hwz]; exact HB.out
      rw [← hwz]
      clear hwz hP hK hB HP HKb HB
      go_wp2
      go_loopw [21] (fun q wr => ∃ g : Nat, g ≤ s ∧ q = .int .i64 g ∧ Blk wr bP 57 16 (fun v => .bool (st.pl.contains v)) ∧ Blk wr (bP + 1) 57 16 (fun v => .bool (Kf L.rd m st.pl g v)) ∧ Below w.heap.size w wr) (fun q _ => s - (intOf q).toNat)
      case atStart =>
        refine ⟨0, Nat.zero_le _, rfl, HP2.out, HK2.out.congr (fun j _ => ?_), HB2.out⟩
        unfold Kf
        have : (decide (m ≤ j) && decide (j < m + 0)) = false := by simp
        rw [this]
        simp
      case round =>
        obtain ⟨g, hg, rfl, hP, hK, hB⟩ := hrel
        by_cases hlt2 : g < s
        · obtain ⟨wg, hwg⟩ : ∃ wg, wg = wr := ⟨_, rfl⟩
          rw [← hwg] at hP hK hB ⊢
          have HP3 : Hid (Blk wg bP 57 16 (fun v => .bool (st.pl.contains v))) := hP
          have HK3 : Hid (Blk wg (bP + 1) 57 16 (fun v => .bool (Kf L.rd m st.pl g v))) := hK
          have HB3 : Hid (Below w.heap.size w wg) := hB
          clear hwg hP hK hB
          go_wp2
          go_loopw [22, 23, 24] (fun vc vp q wr => ∃ i : Nat, i ≤ m ∧ q = .int .i64 i ∧ vc = .int .i64 (cnt (fun i => (L.rd i).contains g) i : Nat) ∧ vp = .int .i64 (cnt (fun i => (L.rd i).contains g && st.pl.contains i) i : Nat) ∧ wr = wg) (fun _ _ q _ => m - (intOf q).toNat)
          case atStart => exact ⟨0, Nat.zero_le _, rfl, rfl, rfl, rfl⟩
          case round =>
            obtain ⟨i, hi, rfl, rfl, rfl, hwg⟩ := hrel
            subst hwg
            by_cases hlt3 : i < m
            · have hrd := HT.out.rd i (by rw [HM.out]; exact hlt3) g (by rw [HSs.out]; exact hlt2)
              rw [HL3.out] at hrd
              have cPi := HP3.out.cell (j := i) (by omega)
              have c1 := cnt_bound (fun i => (L.rd i).contains g) i
              have c2 := cnt_bound (fun i => (L.rd i).contains g && st.pl.contains i) i
              have s1 : cnt (fun i => (L.rd i).contains g) (i + 1) = cnt (fun i => (L.rd i).contains g) i + if (L.rd i).contains g then 1 else 0 := rfl
              have s2 : cnt (fun i => (L.rd i).contains g && st.pl.contains i) (i + 1) = cnt (fun i => (L.rd i).contains g && st.pl.contains i) i + if ((L.rd i).contains g && st.pl.contains i) then 1 else 0 := rfl
              have HS1 : Hid _ := s1
              have HS2 : Hid _ := s2
              obtain ⟨ci, hci⟩ : ∃ c, cnt (fun i => (L.rd i).contains g) i = c := ⟨_, rfl⟩
              obtain ⟨pi, hpi⟩ : ∃ c, cnt (fun i => (L.rd i).contains g && st.pl.contains i) i = c := ⟨_, rfl⟩
              rw [hci] at HS1 c1 ⊢
              rw [hpi] at HS2 c2 ⊢
              clear s1 s2 hci hpi
              by_cases hil : i < l3
              · obtain ⟨b, o, hb, hbl, h256, cc⟩ := H3.out i (by rw [HL3.out]; exact hil)
                have cw := Below.cells HB3.out hbl cc
                obtain ⟨x, hx⟩ : ∃ x, rm.getD i 0 = x := ⟨_, rfl⟩
                rw [hx] at cw h256 hrd
                have hbt := bit_u8 h256 (show g < 3 by omega)
                have hil' : decide (i < l3) = true := by simp [hil]
                rw [hil', Bool.true_and] at hrd
                clear cc hx hil'
                subst hb
                cases hxb : x.testBit g with
                | false =>
                  rw [hxb] at hbt hrd
                  have HRD : Hid ((L.rd i).contains g = false) := hrd
                  clear hrd hxb
                  go_wp2
                  go_roundw
                  case rel => exact ⟨i + 1, by omega, by go_num, by rw [HS1.out, HRD.out]; rfl, by rw [HS2.out, HRD.out]; rfl, trivial⟩
                  case measure => simp [intOf]; omega
                | true =>
                  rw [hxb] at hbt hrd
                  have HRD : Hid ((L.rd i).contains g = true) := hrd
                  clear hrd hxb
                  cases hpc : st.pl.contains i with
                  | false =>
                    rw [hpc] at cPi
                    have HPC : Hid (st.pl.contains i = false) := hpc
                    clear hpc
                    go_wp2
                    go_roundw
                    case rel => exact ⟨i + 1, by omega, by go_num, by rw [HS1.out, HRD.out]; rfl, by rw [HS2.out, HRD.out, HPC.out]; rfl, trivial⟩
                    case measure => simp [intOf]; omega
                  | true =>
                    rw [hpc] at cPi
                    have HPC : Hid (st.pl.contains i = true) := hpc
                    clear hpc
                    go_wp2
                    go_roundw
                    case rel => exact ⟨i + 1, by omega, by go_num, by rw [HS1.out, HRD.out]; rfl, by rw [HS2.out, HRD.out, HPC.out]; rfl, trivial⟩
                    case measure => simp [intOf]; omega
              · have hil' : decide (i < l3) = false := by simp [hil]
                rw [hil', Bool.false_and] at hrd
                have HRD : Hid ((L.rd i).contains g = false) := hrd
                clear hrd hil'
                go_wp2
                go_roundw
                case rel => exact ⟨i + 1, by omega, by go_num, by rw [HS1.out, HRD.out]; rfl, by rw [HS2.out, HRD.out]; rfl, trivial⟩
                case measure => simp [intOf]; omega
            · obtain rfl : i = m := by omega
              have hlf := HV.out.lf g (by rw [HSs.out]; exact hlt2)
              rw [HM.out] at hlf
              have hc1 : cnt (fun i_1 => (L.rd i_1).contains g) i = Cn L.rd i g := rfl
              have hp1 : cnt (fun i_1 => (L.rd i_1).contains g && st.pl.contains i_1) i = Pn L.rd i st.pl g := rfl
              have hcl := HS.out.core.lf g (by rw [HSs.out]; exact hlt2)
              have e9 : st.lf g = (Cn L.rd i g : Int) - (Pn L.rd i st.pl g : Int) := hlf
              rw [e9] at hcl
              have hkd : kcut L.rd i st.pl g = (decide (0 < Cn L.rd i g) && decide (Pn L.rd i st.pl g = Cn L.rd i g)) := rfl
              have hCb : Cn L.rd i g ≤ i := cnt_bound _ _
              have hPb : Pn L.rd i st.pl g ≤ i := cnt_bound _ _
              rw [hc1, hp1]
              obtain ⟨C, hC⟩ : ∃ C, Cn L.rd i g = C := ⟨_, rfl⟩
              obtain ⟨P, hP⟩ : ∃ P, Pn L.rd i st.pl g = P := ⟨_, rfl⟩
              rw [hC, hP] at hcl hkd ⊢
              rw [hC] at hCb
              rw [hP] at hPb
              have hkk := HK.out
              have k10 := Below.cells HB3.out hkk.2.1 hkk.1
              have cleft := Below.cells HB3.out hkk.2.2.1 hcl
              rw [Nat.mul_comm] at cleft
              have cKg := HK3.out.cell (j := i + g) (by omega)
              have fKg := HK3.out.free (i + g)
              have hdne : (((C : Int) - (P : Int)) != ((C : Int) - (P : Int))) = false := by simp
              obtain ⟨D, hD⟩ : ∃ D, (C : Int) - (P : Int) = D := ⟨_, rfl⟩
              have hwD : IntKind.i64.wrap D = D := by rw [IntKind.wrap_i64, ← hD]; omega
              have hbGK : L.bG ≠ bP + 1 := by have := HBP.out; omega
              have hKbP : L.K ≠ bP + 1 := by have := HBP.out; omega
              rw [hD] at cleft
              have HKD : Hid (kcut L.rd i st.pl g = (decide (0 < C) && decide (P = C))) := hkd
              have hKstep : ∀ v, Kf L.rd i st.pl (g + 1) v = if v = i + g then (st.pl.contains v || kcut L.rd i st.pl g) else Kf L.rd i st.pl g v := fun v => by
                unfold Kf
                by_cases hv : v = i + g
                · subst hv
                  rw [if_pos rfl]
                  have h1 : i ≤ i + g := by omega
                  have h2 : i + g < i + (g + 1) := by omega
                  have h3 : i + g - i = g := by omega
                  simp [h1, h2, h3]
                · rw [if_neg hv]
                  by_cases h1 : i ≤ v
                  · have h2 : (v < i + (g + 1)) ↔ (v < i + g) := by omega
                    simp [h1, h2]
                  · simp [h1]
              have HKS : Hid _ := hKstep
              have hnp : st.pl.contains (i + g) = false := by
                cases hh : st.pl.contains (i + g) with
                | false => rfl
                | true =>
                  have := HPM.out (i + g) (by simpa using hh)
                  rw [HM.out] at this
                  omega
              have HNP : Hid (st.pl.contains (i + g) = false) := hnp
              have hig : (i : Int) + (g : Int) = ((i + g : Nat) : Int) := by omega
              obtain ⟨ig, higN⟩ : ∃ x, i + g = x := ⟨_, rfl⟩
              have HIG : Hid (i + g = ig) := higN
              rw [higN] at hig cKg fKg
              have hig16 : ig < 16 := by omega
              clear hlf hc1 hp1 hcl e9 hkd hkk hC hP hKstep hnp hdne
              by_cases hk0 : 0 < C ∧ P = C
              · obtain ⟨hk1, hk2⟩ := hk0
                have HK1 : Hid (kcut L.rd i st.pl g = true) := by show _ = _; rw [HKD.out]; simp [hk1, hk2]
                subst hk2
                go_wp2
                go_roundw
                case rel =>
                  have hbp := HBP.out
                  refine ⟨g + 1, by omega, by go_num, HP3.out.other (by omega) _, (HK3.out.set ig (.bool true)).congr (fun j hj => ?_), HB3.out.setCell (p := ⟨bP + 1, ig, none⟩) (by show _ ≤ bP + 1; omega) _⟩
                  unfold updV
                  rw [HKS.out j, ← HIG.out]
                  split
                  · rw [HK1.out]; simp
                  · rfl
                case measure => simp [intOf]; omega
              · have HK1 : Hid (kcut L.rd i st.pl g = false) := by
                  show _ = _
                  rw [HKD.out]
                  by_cases h1 : 0 < C
                  · have : ¬ P = C := fun e => hk0 ⟨h1, e⟩
                    simp [this]
                  · simp [h1]
                by_cases h1 : 0 < C
                · have h2 : ¬ (P = C) := fun e => hk0 ⟨h1, e⟩
                  have h3 : ((P : Int) == (C : Int)) = false := by simp; omega
                  clear hk0
                  go_wp2
                  go_roundw
                  case rel =>
                    refine ⟨g + 1, by omega, by go_num, HP3.out, HK3.out.congr (fun j hj => ?_), HB3.out⟩
                    rw [HKS.out j]
                    split
                    · rename_i hj2
                      rw [HK1.out, hj2]
                      unfold Kf
                      have : ¬ (i + g < i + g) := by omega
                      simp [this]
                    · rfl
                  case measure => simp [intOf]; omega
                · clear hk0
                  go_wp2
                  go_roundw
                  case rel =>
                    refine ⟨g + 1, by omega, by go_num, HP3.out, HK3.out.congr (fun j hj => ?_), HB3.out⟩
                    rw [HKS.out j]
                    split
                    · rename_i hj2
                      rw [HK1.out, hj2]
                      unfold Kf
                      have : ¬ (i + g < i + g) := by omega
                      simp [this]
                    · rfl
                  case measure => simp [intOf]; omega
        · obtain rfl : g = s := by omega
          obtain ⟨wk, hwk⟩ : ∃ wk, wk = wr := ⟨_, rfl⟩
          rw [← hwk] at hP hK hB ⊢
          have HK4 : Hid (Blk wk (bP + 1) 57 16 (fun v => .bool (Kf L.rd m st.pl g v))) := hK
          have HB4 : Hid (Below w.heap.size w wk) := hB
          clear hwk hP hK hB
          have hkk := HK.out
          have k4 := Below.cells HB4.out hkk.2.1 hkk.2.2.2.2.2.1
          have k9 := Below.cells HB4.out hkk.2.1 hkk.2.2.2.2.2.2.1
          have k17 := Below.cells HB4.out hkk.2.1 hkk.2.2.2.2.2.2.2
          obtain ⟨M, hM⟩ : ∃ M, 2 * N + 1 = M := ⟨_, rfl⟩
          rw [hM] at k4
          have hMI : 2 * (N : Int) + 1 = (M : Int) := by omega
          have hlvlt : st.live < 2 ^ N := by
            have := HV.out.lt
            rw [HM.out, HSs.out, HN.out] at this
            exact this
          have h512 : st.live < 512 := Nat.lt_of_lt_of_le hlvlt (Nat.pow_le_pow_right (n := 2) (by omega) hns)
          have hKl : ∀ v, v < N → Kf L.rd m st.pl g v = !(st.live.testBit v) := fun v hv => by
            have hNm := HN.out
            unfold Kf
            by_cases h1 : m ≤ v
            · have h2 := HV.out.seg (v - m) (by rw [HSs.out]; omega)
              rw [HM.out] at h2
              have h3 : m + (v - m) = v := by omega
              rw [h3] at h2
              have h4 : v < m + g := by omega
              have h5 : st.pl.contains v = false := by
                cases hh : st.pl.contains v with
                | false => rfl
                | true =>
                  have := HPM.out v (by simpa using hh)
                  rw [HM.out] at this
                  omega
              have h6 : st.live.testBit v = !(kcut L.rd m st.pl (v - m)) := h2
              rw [h5, h6]
              simp [h1, h4]
            · have h2 := HV.out.mem v (by rw [HM.out]; omega)
              have h6 : st.live.testBit v = !(st.pl.contains v) := h2
              rw [h6]
              simp [h1]
          have HKL : Hid (∀ v, v < N → Kf L.rd m st.pl g v = !(st.live.testBit v)) := hKl
          have HLT : Hid (st.live < 2 ^ N) := hlvlt
          clear hkk hKl hlvlt
          have hMe : ((M : Int) != (M : Int)) = false := by simp
          go_wp2
          go_loopw [25, 26] (fun lv q wr => ∃ v : Nat, v ≤ N ∧ q = .int .i64 v ∧ lv = .int .u64 (st.live % 2 ^ v : Nat) ∧ wr = wk) (fun _ q _ => N - (intOf q).toNat)
          case atStart => exact ⟨0, Nat.zero_le _, rfl, by simp [Nat.mod_one], rfl⟩
          case round =>
            obtain ⟨v, hv, rfl, rfl, hwk⟩ := hrel
            subst hwk
            by_cases hltv : v < N
            · have cKv := HK4.out.cell (j := v) (by omega)
              rw [HKL.out v hltv] at cKv
              have hsta := HS.out
              have hvn : v < L.n := by rw [HNE.out]; exact hltv
              have c0 := Below.cells HB4.out HK.out.2.2.2.1 (hsta.core.fix.rowAt G hvn)
              have c1 := Below.cells HB4.out HK.out.2.2.2.1 (hsta.core.fix.addAt G hvn)
              rw [HNE.out] at c1
              have hav := HT.out.add v hvn
              rw [HL4.out, HNE.out, HF.out] at hav
              obtain ⟨A, hA⟩ : ∃ A, L.add v = A := ⟨_, rfl⟩
              rw [hA] at hav c1
              have hAne : ((A : Int) != (A : Int)) = false := by simp
              have hvo : v < 9 := by omega
              have hNv : N + v < M := by omega
              have hpw := wrap_pow9 v hvo
              obtain ⟨x, hx⟩ : ∃ x, st.live % 2 ^ v = x := ⟨_, rfl⟩
              have hx5 : x < 512 := by rw [← hx]; exact Nat.lt_of_le_of_lt (Nat.mod_le _ _) h512
              have HX : Hid (st.live % 2 ^ v = x) := hx
              rw [hx]
              have HA : Hid (L.add v = A) := hA
              have horx : st.live.testBit v = true → bits BinOp.or IntKind.u64 (x : Int) ((2 ^ v : Nat) : Int) = ((st.live % 2 ^ (v + 1) : Nat) : Int) := fun hb => by
                have := or_at h512 hvo hb
                rw [hx] at this
                exact this
              have HOR : Hid _ := horx
              have hnox : st.live.testBit v = false → x = st.live % 2 ^ (v + 1) := fun hb => by rw [← hx]; exact no_at h512 hvo hb
              have HNO : Hid _ := hnox
              clear hsta hx hA horx hnox
              obtain ⟨p2, hp2⟩ : ∃ p, 2 ^ v = p := ⟨_, rfl⟩
              rw [hp2] at hpw HOR
              clear hp2
              cases hlb : st.live.testBit v with
              | true =>
                rw [hlb] at cKv
                have hor := HOR.out hlb
                obtain ⟨y, hy⟩ : ∃ y, st.live % 2 ^ (v + 1) = y := ⟨_, rfl⟩
                have HY : Hid (st.live % 2 ^ (v + 1) = y) := hy
                rw [hy] at hor
                clear hy HOR HNO hlb
                by_cases hl : v < l4
                · rw [if_pos hl] at hav
                  obtain ⟨b, o, hb, hbl, h64, cc⟩ := H4.out v (by rw [HL4.out]; exact hl)
                  have cw := Below.cells HB4.out hbl cc
                  obtain ⟨a, ha⟩ : ∃ a, ad.getD v 0 = a := ⟨_, rfl⟩
                  rw [ha] at cw h64 hav
                  have hand := bits_and_u64_nat a F h64 (by have := HF.out; have : 2 ^ N ≤ 512 := Nat.pow_le_pow_right (n := 2) (by omega) hns; omega)
                  rw [← hav] at hand
                  subst hb
                  clear ha cc hav
                  go_wp2
                  go_roundw
                  case rel => exact ⟨v + 1, by omega, by go_num, by rw [HY.out], trivial⟩
                  case measure => simp [intOf]; omega
                · rw [if_neg hl] at hav
                  subst hav
                  go_wp2
                  go_roundw
                  case rel => exact ⟨v + 1, by omega, by go_num, by rw [HY.out], trivial⟩
                  case measure => simp [intOf]; omega
              | false =>
                rw [hlb] at cKv
                have hno := HNO.out hlb
                have HY : Hid (x = st.live % 2 ^ (v + 1)) := hno
                clear hno HOR HNO hlb
                by_cases hl : v < l4
                · rw [if_pos hl] at hav
                  obtain ⟨b, o, hb, hbl, h64, cc⟩ := H4.out v (by rw [HL4.out]; exact hl)
                  have cw := Below.cells HB4.out hbl cc
                  obtain ⟨a, ha⟩ : ∃ a, ad.getD v 0 = a := ⟨_, rfl⟩
                  rw [ha] at cw h64 hav
                  have hand := bits_and_u64_nat a F h64 (by have := HF.out; have : 2 ^ N ≤ 512 := Nat.pow_le_pow_right (n := 2) (by omega) hns; omega)
                  rw [← hav] at hand
                  subst hb
                  clear ha cc hav
                  go_wp2
                  go_roundw
                  case rel => exact ⟨v + 1, by omega, by go_num, by rw [← HY.out], trivial⟩
                  case measure => simp [intOf]; omega
                · rw [if_neg hl] at hav
                  subst hav
                  go_wp2
                  go_roundw
                  case rel => exact ⟨v + 1, by omega, by go_num, by rw [← HY.out], trivial⟩
                  case measure => simp [intOf]; omega
            · obtain rfl : v = N := by omega
              have hmod : st.live % 2 ^ v = st.live := Nat.mod_eq_of_lt HLT.out
              rw [hmod]
              have clv := Below.cells HB4.out HK.out.2.2.2.1 HS.out.core.lv
              rw [HNE.out] at clv
              have hlne : ((st.live : Int) != (st.live : Int)) = false := by simp
              have h2N : (2 : Int) * (v : Int) = ((2 * v : Nat) : Int) := by omega
              obtain ⟨N2, hN2⟩ : ∃ x, 2 * v = x := ⟨_, rfl⟩
              rw [hN2] at clv h2N
              have hNM2 : N2 < M := by omega
              obtain ⟨lv, hlv⟩ : ∃ x, st.live = x := ⟨_, rfl⟩
              have HLV : Hid (st.live = lv) := hlv
              rw [hlv] at clv hlne ⊢
              obtain ⟨wk2, hwk2⟩ : ∃ w2, w2 = wr := ⟨_, rfl⟩
              rw [← hwk2] at HK4 HB4 k4 k9 k17 clv ⊢
              clear hmod hlv hwk2 hMe
              go_wp2
              go_loopw [28] (fun q wr => ∃ u : Nat, u ≤ v ∧ q = .int .i64 u ∧ wr = wk2) (fun q _ => v - (intOf q).toNat)
              case atStart => exact ⟨0, Nat.zero_le _, rfl, rfl⟩
              case round =>
                obtain ⟨u, hu, rfl, hwk⟩ := hrel
                subst hwk
                by_cases hltu : u < v
                · have cwt := Below.cells HB4.out HK.out.2.2.2.2.1 (HS.out.core.wt u (by rw [HNE.out]; exact hltu))
                  have hwte : st.wt u = Wt L.add wait st.live u := HV.out.wt u
                  have HSUM : Hid (st.wt u = wait u - sumW (fun v => if Kf L.rd m st.pl g v then bit (L.add v) u else 0) v) := by
                    show _ = _
                    rw [hwte]
                    unfold Wt
                    have e1 : sumW (fun v => if st.live.testBit v then 0 else bit (L.add v) u) 9 = sumW (fun v => if st.live.testBit v then 0 else bit (L.add v) u) v := sumW_beyond hns (fun x hx => by
                      rw [HT.out.add0 x (by rw [HNE.out]; exact hx)]
                      simp [bit])
                    rw [e1]
                    congr 1
                    refine sumW_congr (fun x hx => ?_)
                    rw [HKL.out x hx]
                    cases st.live.testBit x <;> rfl
                  have hwait := HT.out.wait u
                  rw [HL5.out] at hwait
                  have hwb : -128 ≤ wait u ∧ wait u ≤ 127 := by
                    rw [hwait]
                    split
                    · rename_i h
                      obtain ⟨_, _, _, _, h2, _⟩ := H5.out u (by rw [HL5.out]; exact h)
                      exact h2
                    · omega
                  have HBND : Hid (∀ k, 0 ≤ sumW (fun v => if Kf L.rd m st.pl g v then bit (L.add v) u else 0) k ∧ sumW (fun v => if Kf L.rd m st.pl g v then bit (L.add v) u else 0) k ≤ k) := fun k => sumW_bound (fun i => by
                    split
                    · exact bit_01 _ _
                    · omega) k
                  obtain ⟨wu, hwu⟩ : ∃ x, wait u = x := ⟨_, rfl⟩
                  rw [hwu] at hwait hwb HSUM
                  obtain ⟨wtu, hwtu⟩ : ∃ x, st.wt u = x := ⟨_, rfl⟩
                  rw [hwtu] at cwt HSUM
                  clear hwte hwu hwtu
                  go_upto_if 174 with fail
                  go_cut [29] (fun ve wx => ve = .int .i64 wu ∧ wx = wr)
                  case first =>
                    by_cases hl : u < l5
                    · obtain ⟨b, o, hb, hbl, h64, cc⟩ := H5.out u (by rw [HL5.out]; exact hl)
                      have cw := Below.cells HB4.out hbl cc
                      rw [if_pos hl] at hwait
                      rw [← hwait] at cw
                      subst hb
                      clear cc h64 hwait
                      go_wp2
                      go_meet
                      exact ⟨rfl, rfl⟩
                    · rw [if_neg hl] at hwait
                      subst hwait
                      go_wp2
                      go_meet
                      exact ⟨rfl, rfl⟩
                  case rest =>
                    obtain ⟨rfl, hwc⟩ := hcut
                    rw [hwc]
                    obtain ⟨wq, hwq⟩ : ∃ x, x = wr := ⟨_, rfl⟩
                    rw [← hwq] at HK4 HB4 k4 k9 k17 cwt ⊢
                    have HWQ : Hid (wq = wr) := hwq
                    clear hwc hwq
                    go_wp2
                    go_loopw [29, 30] (fun ve q wr => ∃ x : Nat, x ≤ v ∧ q = .int .i64 x ∧ ve = .int .i64 (wu - sumW (fun v => if Kf L.rd m st.pl g v then bit (L.add v) u else 0) x) ∧ wr = wq) (fun _ q _ => v - (intOf q).toNat)
                    case atStart => exact ⟨0, Nat.zero_le _, rfl, by simp [sumW], rfl⟩
                    case round =>
                      obtain ⟨x, hx, rfl, rfl, hwq⟩ := hrel
                      subst hwq
                      by_cases hltx : x < v
                      · have cKx := HK4.out.cell (j := x) (by omega)
                        have hst : sumW (fun v => if Kf L.rd m st.pl g v then bit (L.add v) u else 0) (x + 1) = sumW (fun v => if Kf L.rd m st.pl g v then bit (L.add v) u else 0) x + (if Kf L.rd m st.pl g x then bit (L.add x) u else 0) := rfl
                        have hbd := HBND.out x
                        obtain ⟨S, hS⟩ : ∃ S, sumW (fun v => if Kf L.rd m st.pl g v then bit (L.add v) u else 0) x = S := ⟨_, rfl⟩
                        rw [hS] at hst hbd ⊢
                        have HST : Hid _ := hst
                        have hadx := HT.out.add x (by rw [HNE.out]; exact hltx)
                        rw [HL4.out, HNE.out] at hadx
                        have HAX : Hid (L.add x = if x < l4 then ad.getD x 0 &&& (2 ^ v - 1) else 0) := hadx
                        obtain ⟨E, hE⟩ : ∃ E, wu - S = E := ⟨_, rfl⟩
                        have HE : Hid (wu - S = E) := hE
                        have hEb : -200 ≤ E ∧ E ≤ 200 := by omega
                        rw [hE]
                        clear hst hS hadx hE hbd
                        cases hkx : Kf L.rd m st.pl g x with
                        | false =>
                          rw [hkx] at cKx
                          have HKX : Hid (Kf L.rd m st.pl g x = false) := hkx
                          clear hkx
                          go_wp2
                          go_roundw
                          case rel => exact ⟨x + 1, by omega, by go_num, by rw [HST.out, HKX.out, ← HE.out]; simp, trivial⟩
                          case measure => simp [intOf]; omega
                        | true =>
                          rw [hkx] at cKx
                          have HKX : Hid (Kf L.rd m st.pl g x = true) := hkx
                          clear hkx
                          by_cases hl : x < l4
                          · obtain ⟨b, o, hb, hbl, h64, cc⟩ := H4.out x (by rw [HL4.out]; exact hl)
                            have cw := Below.cells HB4.out hbl cc
                            obtain ⟨a, ha⟩ : ∃ a, ad.getD x 0 = a := ⟨_, rfl⟩
                            rw [ha] at cw h64
                            have hbt := bit_u64 (u := u) h64
                            have HBX : Hid (bit (L.add x) u = if a.testBit u then 1 else 0) := by
                              show _ = _
                              rw [HAX.out, if_pos hl, ha]
                              unfold bit
                              rw [Nat.testBit_and, Nat.testBit_two_pow_sub_one]
                              simp [hltu]
                            subst hb
                            clear ha cc
                            cases hab : a.testBit u with
                            | false =>
                              rw [hab] at hbt
                              have HAB : Hid (a.testBit u = false) := hab
                              clear hab
                              go_wp2
                              go_roundw
                              case rel => exact ⟨x + 1, by omega, by go_num, by rw [HST.out, HKX.out, HBX.out, HAB.out, ← HE.out]; simp, trivial⟩
                              case measure => simp [intOf]; omega
                            | true =>
                              rw [hab] at hbt
                              have HAB : Hid (a.testBit u = true) := hab
                              clear hab
                              go_wp2
                              go_roundw
                              case rel => exact ⟨x + 1, by omega, by go_num, by rw [HST.out, HKX.out, HBX.out, HAB.out, ← HE.out]; simp; omega, trivial⟩
                              case measure => simp [intOf]; omega
                          · have HBX : Hid (bit (L.add x) u = 0) := by
                              show _ = _
                              rw [HAX.out, if_neg hl]
                              simp [bit]
                            go_wp2
                            go_roundw
                            case rel => exact ⟨x + 1, by omega, by go_num, by rw [HST.out, HKX.out, HBX.out, ← HE.out]; simp, trivial⟩
                            case measure => simp [intOf]; omega
                      · obtain rfl : x = v := by omega
                        rw [← HSUM.out]
                        have hne : (wtu != wtu) = false := by simp
                        clear HSUM
                        go_wp2
                        go_roundw
                        case rel => exact ⟨u + 1, by omega, by go_num, HWQ.out⟩
                        case measure => simp [intOf]; omega
                · obtain rfl : u = v := by omega
                  obtain ⟨pa, pcap, hvp, hpc, hat⟩ := row_at HS.out.rest.rp rfl
                  have hat2 : AtI wr pa st.pl := fun j hj => by
                    obtain ⟨b, o, h1, h2⟩ := hat j hj
                    exact ⟨b, o, h1, Below.cells HB4.out (World.block_lt_of_cell? _ _ h2) h2⟩
                  have hat3 : AtI wr a6 st.pl := fun j hj => by
                    obtain ⟨b, o, h1, h2⟩ := H6.out j hj
                    exact ⟨b, o, h1, Below.cells HB4.out (World.block_lt_of_cell? _ _ h2) h2⟩
                  have HEQ : Hid (Calls Ybad.prog 19 #[.slice pa k pcap, .slice a6 k c6] wr fun e w' => e = .returned (.bool true) ∧ ∃ n, w' = wr.drewN n) := by
                    have := equal_any pa a6 pcap c6 st.pl (by rw [HL6.out]; omega) wr hat2 hat3
                    rw [HL6.out] at this
                    exact this
                  rw [hvp, HL6.out] at k17
                  clear hat hat2 hat3 hvp
                  go_wp2_with (first | (go_at_call 19; refine HEQ.out.mono ?_; rintro _ _ ⟨rfl, nn, rfl⟩))
                  go_ret
                  exact ⟨rfl, below_drewN HB4.out nn⟩
end Go.Proofs.YbulkcoguDoor
