import Derived.Test.YbulkcoguDoorLeaves
import Derived.OneCell
namespace Go.Proofs.YbulkcoguDoor
open Go.RowKit Go.Deep
set_option linter.unusedVariables false
set_option linter.unusedSimpArgs false

def encI (x : Nat) : Value := .int .i64 (x : Int)

/-- The lay of a closure that the law has built: block numbers, sizes, what its fixed cells hold; w1 is the world where the placing begins. -/
structure Lay where
  K : Nat
  S : Nat
  bB : Nat
  bW : Nat
  bG : Nat
  bO : Nat
  bR : Nat
  xV : Nat
  m : Nat
  s : Nat
  add : Nat → Nat
  rd : Nat → List Nat
  rv : Nat → Value
  rb : Nat → Nat
  cnt : Nat → Nat
  vq : Value
  vz : Value
  w1 : World

def Lay.n (L : Lay) : Nat := L.m + L.s

def Lay.Spec (L : Lay) (b : Nat) : Prop := b = L.K ∨ b = L.S ∨ b = L.bB ∨ b = L.bW ∨ b = L.bG ∨ b = L.xV

def Lay.Dyn (L : Lay) (b o : Nat) : Prop :=
  (b = L.K ∧ (o = 17 ∨ (20 ≤ o ∧ o ≤ 25) ∨ o = 38)) ∨ (b = L.S ∧ o = 0) ∨ (b = L.bB ∧ o = 2 * L.n) ∨ b = L.bW ∨ (b = L.bG ∧ o % 4 = 2) ∨ b = L.xV

/-- The fixed cells of the closure. -/
def Lay.kfix (L : Lay) : Nat → Option Value
  | 1 => some (.int .i64 1)
  | 2 => some (.pointer (some ⟨L.S, 0, none⟩))
  | 3 => some (.int .i64 1)
  | 4 => some (.slice (some ⟨L.bB, 0, none⟩) (2 * L.n + 1) (2 * L.n + 1))
  | 6 => some (.int .i64 L.n)
  | 7 => some (.int .i64 (2 * L.n : Nat))
  | 9 => some (.slice (some ⟨L.bW, 0, none⟩) L.n L.n)
  | 10 => some (.slice (some ⟨L.bG, 0, none⟩) L.s L.s)
  | 12 => some (.slice (some ⟨L.bO, 0, none⟩) L.m L.m)
  | 13 => some (.slice (some ⟨L.bR, 0, none⟩) L.m L.m)
  | 15 => some (.slice none 0 0)
  | 18 => some L.vq
  | 19 => some L.vz
  | 36 => some (.slice none 0 0)
  | 37 => some (.int .i64 0)
  | _ => none

structure Good (L : Lay) : Prop where
  m1 : 1 ≤ L.m
  m6 : L.m ≤ 6
  s3 : L.s ≤ 3
  pos : 0 < L.bB
  BW : L.bB < L.bW
  BS : L.bB < L.S
  BG : L.bB < L.bG
  BK : L.bB < L.K
  BV : L.bB < L.xV
  KS : L.K ≠ L.S
  KW : L.K ≠ L.bW
  KG : L.K ≠ L.bG
  KV : L.K ≠ L.xV
  SW : L.S ≠ L.bW
  SG : L.S ≠ L.bG
  SV : L.S ≠ L.xV
  WG : L.bW ≠ L.bG
  WV : L.bW ≠ L.xV
  GV : L.bG ≠ L.xV
  Kl : L.K < L.w1.heap.size
  Sl : L.S < L.w1.heap.size
  Bl : L.bB < L.w1.heap.size
  Wl : L.bW < L.w1.heap.size
  Gl : L.bG < L.w1.heap.size
  Ol : L.bO < L.w1.heap.size
  Rl : L.bR < L.w1.heap.size
  Vl : L.xV < L.w1.heap.size
  nO : ¬ L.Spec L.bO
  nR : ¬ L.Spec L.bR
  add_lt : ∀ v, L.add v < 2 ^ L.n
  kf : ∀ o v, L.kfix o = some v → L.w1.cell? ⟨L.K, o, none⟩ = some v
  lim : L.w1.cell? ⟨L.S, 1, none⟩ = some (.int .i64 1099511627776)
  row0 : ∀ v, v < L.n → L.w1.cell? ⟨L.bB, v, none⟩ = some (.int .u64 0)
  addc : ∀ v, v < L.n → L.w1.cell? ⟨L.bB, L.n + v, none⟩ = some (.int .u64 (L.add v : Nat))
  endc : ∀ g, g < L.s → L.w1.cell? ⟨L.bG, 4 * g + 1, none⟩ = some (.int .i64 ((L.m + g : Nat) : Int))
  rdsc : ∀ g, g < L.s → L.w1.cell? ⟨L.bG, 4 * g + 3, none⟩ = some (.int .i64 (L.cnt g : Nat))
  opn : ∀ i, i < L.m → L.w1.cell? ⟨L.bO, i, none⟩ = some (.slice none 0 0)
  rds : ∀ i, i < L.m → L.w1.cell? ⟨L.bR, i, none⟩ = some (L.rv i)
  rrow : ∀ i, i < L.m → (L.rv i = .slice none 0 0 ∧ L.rd i = []) ∨ (∃ c, L.rv i = .slice (some ⟨L.rb i, 0, none⟩) (L.rd i).length c ∧ (L.rd i).length ≤ c ∧ L.rb i < L.w1.heap.size ∧ ¬ L.Spec (L.rb i) ∧
    ∀ j (hj : j < (L.rd i).length), L.w1.cell? ⟨L.rb i, j, none⟩ = some (encI (L.rd i)[j]))
  rdlt : ∀ i, i < L.m → ∀ g ∈ L.rd i, g < L.s
  rdnd : ∀ i, i < L.m → (L.rd i).Nodup
  rdle : ∀ i, i < L.m → (L.rd i).length ≤ 9
  free : ∀ b, L.Spec b → ∀ o, L.w1.frozen? ⟨b, o, none⟩ = false
  tab : TabAt 0 Lib.deBruijn64tab L.w1

/-- A block's size, element type and frozen part. -/
def kindOf (w : World) (b : Nat) : Option (Nat × TypeId × (Nat × Nat)) := match w.heap[b]? with
  | some (.cells c t fz) => some (c.size, t, fz)
  | _ => Option.none

theorem kind_same {w w' : World} {b : Nat} (h : w'.heap[b]? = w.heap[b]?) : kindOf w' b = kindOf w b := by unfold kindOf; rw [h]

theorem kind_set (w : World) (p : Addr) (v : Value) (b : Nat) : kindOf (w.setCell p v) b = kindOf w b := by
  by_cases he : b = p.block
  · subst he
    unfold kindOf
    simp only [World.setCell, Array.getElem?_modify, if_pos]
    cases hb : w.heap[p.block]? with
    | none => rfl
    | some o =>
      cases o <;> simp
      split <;> simp
  · exact kind_same (Below.heap_setCell _ _ _ _ he)

theorem kind_cells {w : World} {b n : Nat} {t : TypeId} (h : kindOf w b = some (n, t, (0, 0))) : ∃ cur, w.heap[b]? = some (.cells cur t (0, 0)) ∧ cur.size = n := by
  unfold kindOf at h
  split at h
  · rename_i c t' fz hb
    simp only [Option.some.injEq, Prod.mk.injEq] at h
    obtain ⟨rfl, rfl, h3⟩ := h
    refine ⟨c, ?_, rfl⟩
    rw [hb]
    obtain ⟨a, b'⟩ := fz
    simp only [Prod.mk.injEq] at h3
    rw [h3.1, h3.2]
  · cases h

/-- Of what lay at the start only dynamic cells have turned. -/
structure Fix (L : Lay) (w : World) : Prop where
  os : w.os = L.w1.os
  tape : w.tape = L.w1.tape
  output : w.output = L.w1.output
  size : L.w1.heap.size ≤ w.heap.size
  blk : ∀ b, b < L.w1.heap.size → ¬ L.Spec b → w.heap[b]? = L.w1.heap[b]?
  cel : ∀ b o, b < L.w1.heap.size → ¬ L.Dyn b o → w.cell? ⟨b, o, none⟩ = L.w1.cell? ⟨b, o, none⟩
  frz : ∀ b o, b < L.w1.heap.size → w.frozen? ⟨b, o, none⟩ = L.w1.frozen? ⟨b, o, none⟩
  knd : ∀ b, b < L.w1.heap.size → kindOf w b = kindOf L.w1 b

theorem frozen_setCell (w : World) (a b : Addr) (v : Value) : (w.setCell a v).frozen? b = w.frozen? b := by
  simp

theorem Fix.refl (L : Lay) : Fix L L.w1 := ⟨rfl, rfl, rfl, Nat.le_refl _, fun _ _ _ => rfl, fun _ _ _ _ => rfl, fun _ _ _ => rfl, fun _ _ => rfl⟩

theorem Dyn_spec {L : Lay} {b o : Nat} (h : L.Dyn b o) : L.Spec b := by
  unfold Lay.Dyn at h
  unfold Lay.Spec
  omega

theorem Fix.setCell {L : Lay} {w : World} (h : Fix L w) {b o : Nat} (hq : L.w1.heap.size ≤ b ∨ L.Dyn b o) (v : Value) : Fix L (w.setCell ⟨b, o, none⟩ v) where
  os := h.os
  tape := h.tape
  output := h.output
  size := by rw [World.size_setCell]; exact h.size
  blk := fun k hk hs => (Below.heap_setCell _ _ _ _ (by
    rintro rfl
    rcases hq with hq | hq
    · exact absurd hk (Nat.not_lt.2 hq)
    · exact hs (Dyn_spec hq))).trans (h.blk k hk hs)
  cel := fun k j hk hd => (World.cell?_setCell_other _ _ _ _ (by
    intro he
    cases he
    rcases hq with hq | hq
    · omega
    · exact hd hq)).trans (h.cel k j hk hd)
  frz := fun k j hk => (frozen_setCell _ _ _ _).trans (h.frz k j hk)
  knd := fun k hk => (kind_set _ _ _ _).trans (h.knd k hk)

theorem Fix.grown {L : Lay} {w w' : World} {row : Option Nat} (h : Fix L w) (hg : w.grownBy w' row) (hr : ∀ g, row = some g → L.w1.heap.size ≤ g) : Fix L w' where
  os := hg.os.trans h.os
  tape := hg.tape.trans h.tape
  output := hg.output.trans h.output
  size := Nat.le_trans h.size hg.size
  blk := fun b hb hs => (hg.block b (Nat.lt_of_lt_of_le hb h.size) (fun e => by have := hr b e.symm; omega)).trans (h.blk b hb hs)
  cel := fun b o hb hd => (hg.cell_far ⟨b, o, none⟩ (Nat.lt_of_lt_of_le hb h.size) (fun e => by have := hr b e.symm; omega)).trans (h.cel b o hb hd)
  frz := fun b o hb => (hg.frozen_far ⟨b, o, none⟩ (Nat.lt_of_lt_of_le hb h.size) (fun e => by have := hr b e.symm; omega)).trans (h.frz b o hb)
  knd := fun b hb => (kind_same (hg.block b (Nat.lt_of_lt_of_le hb h.size) (fun e => by have := hr b e.symm; omega))).trans (h.knd b hb)

theorem Fix.drewN {L : Lay} {w : World} (h : Fix L w) (n : Nat) : Fix L (w.drewN n) := ⟨h.os, h.tape, h.output, h.size, h.blk, h.cel, h.frz, h.knd⟩

theorem Fix.below {L : Lay} {w w0 : World} {B : Nat} (h : Fix L w) (hb : Below B w0 L.w1) (hB : B ≤ L.bB) (G : Good L) : Below B w0 w :=
  ⟨h.os.trans hb.os, h.tape.trans hb.tape, h.output.trans hb.output, Nat.le_trans hb.size h.size, fun k hk => by
    have := G.BW; have := G.BS; have := G.BG; have := G.BK; have := G.BV; have := G.Bl
    refine (h.blk k (by omega) ?_).trans (hb.block k hk)
    unfold Lay.Spec
    omega⟩


theorem Fix.k {L : Lay} {w : World} (h : Fix L w) (G : Good L) {o : Nat} {v : Value} (ho : L.kfix o = some v) : w.cell? ⟨L.K, o, none⟩ = some v := by
  refine (h.cel L.K o G.Kl ?_).trans (G.kf o v ho)
  have h1 := G.KS; have h2 := G.KW; have h3 := G.KG; have h4 := G.KV; have h5 := G.BK
  rintro (⟨_, hd⟩ | ⟨hd, _⟩ | ⟨hd, _⟩ | hd | ⟨hd, _⟩ | hd)
  · rcases hd with rfl | ⟨hd, hd'⟩ | rfl
    · cases ho
    · have : o = 20 ∨ o = 21 ∨ o = 22 ∨ o = 23 ∨ o = 24 ∨ o = 25 := by omega
      rcases this with rfl | rfl | rfl | rfl | rfl | rfl <;> cases ho
    · cases ho
  all_goals omega

theorem Fix.fr {L : Lay} {w : World} (h : Fix L w) (G : Good L) {b : Nat} (hb : L.Spec b) (o : Nat) : w.frozen? ⟨b, o, none⟩ = false := by
  refine (h.frz b o ?_).trans (G.free b hb o)
  have := G.Kl; have := G.Sl; have := G.Bl; have := G.Wl; have := G.Gl; have := G.Vl
  unfold Lay.Spec at hb
  omega

theorem Fix.limit {L : Lay} {w : World} (h : Fix L w) (G : Good L) : w.cell? ⟨L.S, 1, none⟩ = some (.int .i64 1099511627776) := by
  refine (h.cel L.S 1 G.Sl ?_).trans G.lim
  have := G.KS; have := G.SW; have := G.SG; have := G.SV; have := G.BS
  unfold Lay.Dyn
  omega

theorem Fix.addAt {L : Lay} {w : World} (h : Fix L w) (G : Good L) {v : Nat} (hv : v < L.n) : w.cell? ⟨L.bB, L.n + v, none⟩ = some (.int .u64 (L.add v : Nat)) := by
  refine (h.cel L.bB (L.n + v) G.Bl ?_).trans (G.addc v hv)
  have := G.BW; have := G.BS; have := G.BG; have := G.BK; have := G.BV
  unfold Lay.Dyn
  omega

theorem Fix.rowAt {L : Lay} {w : World} (h : Fix L w) (G : Good L) {v : Nat} (hv : v < L.n) : w.cell? ⟨L.bB, v, none⟩ = some (.int .u64 0) := by
  refine (h.cel L.bB v G.Bl ?_).trans (G.row0 v hv)
  have := G.BW; have := G.BS; have := G.BG; have := G.BK; have := G.BV
  unfold Lay.Dyn
  omega

theorem Fix.endAt {L : Lay} {w : World} (h : Fix L w) (G : Good L) {g : Nat} (hg : g < L.s) : w.cell? ⟨L.bG, 4 * g + 1, none⟩ = some (.int .i64 ((L.m + g : Nat) : Int)) := by
  refine (h.cel L.bG (4 * g + 1) G.Gl ?_).trans (G.endc g hg)
  have := G.KG; have := G.SG; have := G.BG; have := G.WG; have := G.GV
  unfold Lay.Dyn
  omega

theorem Fix.readersAt {L : Lay} {w : World} (h : Fix L w) (G : Good L) {g : Nat} (hg : g < L.s) : w.cell? ⟨L.bG, 4 * g + 3, none⟩ = some (.int .i64 (L.cnt g : Nat)) := by
  refine (h.cel L.bG (4 * g + 3) G.Gl ?_).trans (G.rdsc g hg)
  have := G.KG; have := G.SG; have := G.BG; have := G.WG; have := G.GV
  unfold Lay.Dyn
  omega

theorem Fix.plain {L : Lay} {w : World} (h : Fix L w) (G : Good L) {b o : Nat} (hb : b < L.w1.heap.size) (hs : ¬ L.Spec b) : w.cell? ⟨b, o, none⟩ = L.w1.cell? ⟨b, o, none⟩ :=
  World.cell?_of_block (w := L.w1) (h.blk b hb hs)

theorem Fix.openAt {L : Lay} {w : World} (h : Fix L w) (G : Good L) {i : Nat} (hi : i < L.m) : w.cell? ⟨L.bO, i, none⟩ = some (.slice none 0 0) := (h.plain G G.Ol G.nO).trans (G.opn i hi)

theorem Fix.readsAt {L : Lay} {w : World} (h : Fix L w) (G : Good L) {i : Nat} (hi : i < L.m) : w.cell? ⟨L.bR, i, none⟩ = some (L.rv i) := (h.plain G G.Rl G.nR).trans (G.rds i hi)

theorem Fix.tab {L : Lay} {w : World} (h : Fix L w) (G : Good L) : TabAt 0 Lib.deBruijn64tab w := fun j hj => by
  have := G.BW; have := G.BS; have := G.BG; have := G.BK; have := G.BV; have := G.pos; have := G.Bl
  refine (h.plain G (b := 0) (o := j) (by omega) ?_).trans (G.tab j hj)
  unfold Lay.Spec
  omega
end Go.Proofs.YbulkcoguDoor
