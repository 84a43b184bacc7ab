import Derived.Test.YbulkcoecFmtLast
import Derived.Test.YbulkcoecFmtErr
import Derived.Test.YbulkcoecFmtMu
namespace Go.Proofs.YbulkcoecFmt
open Go.RowKit Go.Deep
set_option linter.unusedVariables false
set_option linter.unusedSimpArgs false

/-- A cell of a block. -/
theorem cell_in {w : World} {b o : Nat} {c : Array Value} {e : TypeId} {fz : Nat × Nat} {u : Value} (h : w.heap[b]? = some (.cells c e fz)) (hu : c[o]? = some u) : w.cell? ⟨b, o, none⟩ = some u := by
  simp [World.cell?, h, hu]

theorem free_in {w : World} {b o : Nat} {c : Array Value} {e : TypeId} (h : w.heap[b]? = some (.cells c e (0, 0))) : w.frozen? ⟨b, o, none⟩ = false := by
  simp [World.frozen?, h]

theorem lt_of {w : World} {b : Nat} {o : Obj} (h : w.heap[b]? = some o) : b < w.heap.size := (Array.getElem?_eq_some_iff.1 h).1

/-- Nothing but the blocks of S and new blocks has turned. -/
structure Stay (S : Nat → Prop) (w w' : World) : Prop where
  os : w'.os = w.os
  tape : w'.tape = w.tape
  output : w'.output = w.output
  size : w.heap.size ≤ w'.heap.size
  block : ∀ b, b < w.heap.size → ¬ S b → w'.heap[b]? = w.heap[b]?

theorem Stay.refl (S : Nat → Prop) (w : World) : Stay S w w := ⟨rfl, rfl, rfl, Nat.le_refl _, fun _ _ _ => rfl⟩

theorem Stay.trans {S : Nat → Prop} {w w1 w2 : World} (h : Stay S w w1) (h2 : Stay S w1 w2) : Stay S w w2 :=
  ⟨h2.os.trans h.os, h2.tape.trans h.tape, h2.output.trans h.output, Nat.le_trans h.size h2.size, fun b hb hn => (h2.block b (Nat.lt_of_lt_of_le hb h.size) hn).trans (h.block b hb hn)⟩

/-- The second step may touch more, if it is new. -/
theorem Stay.trans' {S T : Nat → Prop} {w w1 w2 : World} (h : Stay S w w1) (h2 : Stay T w1 w2) (hT : ∀ b, b < w.heap.size → T b → S b) : Stay S w w2 :=
  ⟨h2.os.trans h.os, h2.tape.trans h.tape, h2.output.trans h.output, Nat.le_trans h.size h2.size, fun b hb hn => (h2.block b (Nat.lt_of_lt_of_le hb h.size) (fun ht => hn (hT b hb ht))).trans (h.block b hb hn)⟩

theorem Stay.mono {S T : Nat → Prop} {w w' : World} (h : Stay S w w') (hs : ∀ b, b < w.heap.size → S b → T b) : Stay T w w' :=
  ⟨h.os, h.tape, h.output, h.size, fun b hb hn => h.block b hb (fun x => hn (hs b hb x))⟩

theorem Stay.of_below {S : Nat → Prop} {w w' : World} (h : Below w.heap.size w w') : Stay S w w' := ⟨h.os, h.tape, h.output, h.size, fun b hb _ => h.block b hb⟩

theorem Stay.alloc (S : Nat → Prop) (w : World) (o : Obj) : Stay S w (w.alloc o) := Stay.of_below ((Below.refl _ w).alloc (Nat.le_refl _) o)

theorem Stay.set {S : Nat → Prop} (w : World) (b o : Nat) (v : Value) (hb : S b) : Stay S w (w.setCell ⟨b, o, none⟩ v) :=
  ⟨rfl, rfl, rfl, by rw [World.size_setCell]; exact Nat.le_refl _, fun k _ hk => Below.heap_setCell _ _ _ _ (by rintro rfl; exact hk hb)⟩

theorem Stay.drew {S : Nat → Prop} {w w' : World} (h : Stay S w w') : Stay S w w'.drew := ⟨h.os, h.tape, h.output, h.size, h.block⟩
theorem Stay.drewN {S : Nat → Prop} {w w' : World} (h : Stay S w w') (n : Nat) : Stay S w (w'.drewN n) := ⟨h.os, h.tape, h.output, h.size, h.block⟩
theorem Stay.of_drew {S : Nat → Prop} {w w' : World} (h : Stay S w.drew w') : Stay S w w' := ⟨h.os, h.tape, h.output, h.size, h.block⟩

theorem Stay.grown {S : Nat → Prop} {w w' : World} {row : Option Nat} (h : w.grownBy w' row) (hr : ∀ g, row = some g → S g) : Stay S w w' :=
  ⟨h.os, h.tape, h.output, h.size, fun b hb hn => h.block b hb (fun e => hn (hr b e.symm))⟩

theorem Stay.at_ {S : Nat → Prop} {w w' : World} (h : Stay S w w') {b : Nat} {o : Obj} (hb : w.heap[b]? = some o) (hn : ¬ S b) : w'.heap[b]? = some o := (h.block b (lt_of hb) hn).trans hb

theorem Stay.cell {S : Nat → Prop} {w w' : World} (h : Stay S w w') {a : Addr} (hb : a.block < w.heap.size) (hn : ¬ S a.block) : w'.cell? a = w.cell? a := World.cell?_of_block (h.block _ hb hn)

theorem Stay.below {S : Nat → Prop} {w w' : World} (h : Stay S w w') {B : Nat} (hB : B ≤ w.heap.size) (hn : ∀ b, b < B → ¬ S b) : Below B w w' :=
  ⟨h.os, h.tape, h.output, h.size, fun k hk => h.block k (Nat.lt_of_lt_of_le hk hB) (hn k hk)⟩

theorem Stay.row {S : Nat → Prop} {w w' : World} (h : Stay S w w') {base : Nat} {e : TypeId} {size : Nat} {v : Value} {n : Nat} {xs : List Value} (hr : w.ownsRow base e size v n xs) (hn : ∀ g, v.ownBlock = some g → ¬ S g) : w'.ownsRow base e size v n xs := by
  refine ⟨hr.1, ?_⟩
  rcases hr.2 with h0 | ⟨g, cap, cur, rfl, hbg, hg, rest⟩
  · exact .inl h0
  · exact .inr ⟨g, cap, cur, rfl, hbg, h.at_ hg (hn g rfl), rest⟩

theorem drew_row {w : World} {base : Nat} {e : TypeId} {size : Nat} {v : Value} {n : Nat} {xs : List Value} (hr : w.ownsRow base e size v n xs) : w.drew.ownsRow base e size v n xs := hr

theorem Ybaf.info9 : (Ybaf.prog.info? 9).map (fun i => (i.zero, i.size, i.bytes)) = some (some (.string ⟨#[]⟩), 1, 16) := by kernel_rfl
theorem Ybaf.info39 : (Ybaf.prog.info? 39).map (fun i => (i.zero, i.size, i.bytes)) = some (some .nilIface, 1, 16) := by kernel_rfl

theorem bound_max {n : Nat} (h : n ≤ 1000) : n + 1 ≤ maxLen := by unfold maxLen; omega

/-- Bools at a. -/
def AtBo (B : Nat) (w : World) (a : Option Addr) (xs : List Bool) : Prop := ∀ j, j < xs.length → ∃ b o, a = some ⟨b, o, none⟩ ∧ b < B ∧ w.cell? ⟨b, o + j, none⟩ = some (.bool (xs.getD j false))

theorem AtBo.stay {B : Nat} {S : Nat → Prop} {w w' : World} {a : Option Addr} {xs : List Bool} (h : AtBo B w a xs) (hs : Stay S w w') (hB : B ≤ w.heap.size) (hn : ∀ b, b < B → ¬ S b) : AtBo B w' a xs := fun j hj => by
  obtain ⟨b, o, h1, h2, h3⟩ := h j hj
  exact ⟨b, o, h1, h2, (hs.cell (a := ⟨b, o + j, none⟩) (Nat.lt_of_lt_of_le h2 hB) (hn b h2)).trans h3⟩
end Go.Proofs.YbulkcoecFmt
