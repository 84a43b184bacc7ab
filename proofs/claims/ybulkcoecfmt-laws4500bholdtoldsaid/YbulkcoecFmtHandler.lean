import Derived.Test.YbulkcoecFmtBase
namespace Go.Proofs.YbulkcoecFmt
open Go.RowKit Go.Deep
set_option linter.unusedVariables false
set_option linter.unusedSimpArgs false

/-- The log row's world: the counter k, the log, the answers. -/
structure Hs (B bK bL bF : Nat) (fa : Option Addr) (fl fc : Nat) (fs : List Bool) (k : Nat) (vlog : Value) (logs : List Value) (w : World) : Prop where
  hk : w.heap[bK]? = some (.cells #[.int .i64 (k : Nat)] 3 (0, 0))
  hl : w.heap[bL]? = some (.cells #[vlog] 22 (0, 0))
  hf : w.heap[bF]? = some (.cells #[.slice fa fl fc] 47 (0, 0))
  row : w.ownsRow B 9 1 vlog k logs
  len : fs.length = fl
  bo : AtBo B w fa fs
  KL : bK ≠ bL
  KF : bK ≠ bF
  LF : bL ≠ bF
  BK : B ≤ bK
  BL : B ≤ bL
  BF : B ≤ bF
  vK : vlog.ownBlock ≠ some bK
  vL : vlog.ownBlock ≠ some bL
  vF : vlog.ownBlock ≠ some bF

/-- What the handler touches. -/
def Hs.S (bK bL : Nat) (vlog : Value) : Nat → Prop := fun b => b = bK ∨ b = bL ∨ vlog.ownBlock = some b

theorem Hs.stay {B bK bL bF : Nat} {fa : Option Addr} {fl fc : Nat} {fs : List Bool} {k : Nat} {vlog : Value} {logs : List Value} {w w' : World} {S : Nat → Prop} (h : Hs B bK bL bF fa fl fc fs k vlog logs w) (hs : Stay S w w') (hB : B ≤ w.heap.size) (h1 : ∀ b, b < B → ¬ S b) (h2 : ¬ S bK) (h3 : ¬ S bL) (h4 : ¬ S bF) (h5 : ∀ g, vlog.ownBlock = some g → ¬ S g) : Hs B bK bL bF fa fl fc fs k vlog logs w' :=
  ⟨hs.at_ h.hk h2, hs.at_ h.hl h3, hs.at_ h.hf h4, hs.row h.row h5, h.len, h.bo.stay hs hB h1, h.KL, h.KF, h.LF, h.BK, h.BL, h.BF, h.vK, h.vL, h.vF⟩

set_option maxRecDepth 100000 in
set_option maxHeartbeats 2000000 in
/-- The handler. -/
theorem handler_any (B bK bL bF : Nat) (fa : Option Addr) (fl fc : Nat) (fs : List Bool) (k : Nat) (vlog : Value) (logs : List Value) (s : ByteArray) (msg : Value) (w : World) (h : Hs B bK bL bF fa fl fc fs k vlog logs w) (hk : k ≤ 900) (hB : B ≤ w.heap.size) (hfl : fl ≤ 9223372036854775807) :
    Calls Ybaf.prog 22 #[.string s, msg, .pointer (some ⟨bK, 0, none⟩), .pointer (some ⟨bL, 0, none⟩), .pointer (some ⟨bF, 0, none⟩)] w fun e w' =>
      (∃ vlog', Hs B bK bL bF fa fl fc fs (k + 1) vlog' (logs ++ [.string s]) w' ∧ (vlog'.ownBlock = vlog.ownBlock ∨ ∃ g, w.heap.size ≤ g ∧ vlog'.ownBlock = some g)) ∧ Stay (Hs.S bK bL vlog) w w' ∧
      ((fs.getD k false = false ∧ e = .returned .nilIface) ∨ (fs.getD k false = true ∧ ∃ a, e = .returned (.iface 118 (.pointer (some ⟨a, 0, none⟩))) ∧ w.heap.size ≤ a ∧ w'.heap[a]? = some (.cells #[.string ⟨#[114, 101, 102, 117, 115, 101, 100]⟩] 120 (0, 0)))) := by
  have H : Hid (Hs B bK bL bF fa fl fc fs k vlog logs w) := h
  have ck := cell_in h.hk (o := 0) (u := .int .i64 (k : Nat)) rfl
  have zk := free_in h.hk (o := 0)
  have KL := h.KL
  have hbL : bL < w.heap.size := lt_of h.hl
  obtain ⟨W0, hW0⟩ : ∃ W, W = w.setCell ⟨bK, 0, none⟩ (.int .i64 ((k : Int) + 1)) := ⟨_, rfl⟩
  have hs0 : Stay (Hs.S bK bL vlog) w W0 := by rw [hW0]; exact Stay.set w bK 0 _ (.inl rfl)
  have hk0 : W0.heap[bK]? = some (.cells #[.int .i64 ((k + 1 : Nat) : Int)] 3 (0, 0)) := by
    rw [hW0, heap_setCell_same w bK 0 _ 3 _ h.hk]; rfl
  have hl0 : W0.heap[bL]? = some (.cells #[vlog] 22 (0, 0)) := by
    rw [hW0]; exact (Below.heap_setCell _ _ _ _ (fun e => KL e.symm)).trans h.hl
  have hrow0 : W0.ownsRow B 9 1 vlog k logs := by
    have : Stay (fun b => b = bK) w W0 := by rw [hW0]; exact Stay.set w bK 0 _ rfl
    exact this.row h.row (fun g hg e => h.vK (by rw [hg, e]))
  obtain ⟨i0, hi0, hz0, hz1, hz2⟩ := info_parts Ybaf.info9
  have HI : Hid (Ybaf.prog.info? 9 = some i0 ∧ i0.zero = some (.string ⟨#[]⟩) ∧ i0.size = 1 ∧ i0.bytes = 16) := ⟨hi0, hz0, hz1, hz2⟩
  have cl0 := cell_in hl0 (o := 0) (u := vlog) rfl
  have hsz0 : W0.heap.size = w.heap.size := by rw [hW0, World.size_setCell]
  have HR0 : Hid (W0.ownsRow B 9 1 vlog k logs ∧ W0.heap.size = w.heap.size) := ⟨hrow0, hsz0⟩
  have HW0 : Hid (w.setCell ⟨bK, 0, none⟩ (.int .i64 ((k : Int) + 1)) = W0) := hW0.symm
  have HL0 : Hid (W0.heap[bL]? = some (.cells #[vlog] 22 (0, 0)) ∧ W0.heap[bK]? = some (.cells #[.int .i64 ((k + 1 : Nat) : Int)] 3 (0, 0)) ∧ Stay (Hs.S bK bL vlog) w W0) := ⟨hl0, hk0, hs0⟩
  have hf0 : W0.heap[bF]? = some (.cells #[.slice fa fl fc] 47 (0, 0)) := by
    rw [hW0]; exact (Below.heap_setCell _ _ _ _ (fun e => h.KF e.symm)).trans h.hf
  have HAP : Hid (∀ (o : Obj) (w2 : World), (W0.alloc o).grownBy w2 vlog.ownBlock → w2.heap[bL]? = some (.cells #[vlog] 22 (0, 0)) ∧ w2.heap[bK]? = some (.cells #[.int .i64 ((k + 1 : Nat) : Int)] 3 (0, 0)) ∧ w2.heap[bF]? = some (.cells #[.slice fa fl fc] 47 (0, 0)) ∧ Stay (Hs.S bK bL vlog) w w2) := fun o w2 hg => by
    have hs := Stay.grown (S := fun b => vlog.ownBlock = some b) hg (fun g e => e)
    have hal : ∀ b ob, W0.heap[b]? = some ob → (W0.alloc o).heap[b]? = some ob := fun b ob hb => (Stay.alloc (fun _ => False) W0 o).at_ hb (fun e => e)
    refine ⟨hs.at_ (hal _ _ hl0) h.vL, hs.at_ (hal _ _ hk0) h.vK, hs.at_ (hal _ _ hf0) h.vF, (hs0.trans (Stay.alloc _ W0 o)).trans' hs (fun b _ e => .inr (.inr e))⟩
  clear h hW0 hk0 hl0 hf0 hrow0 hi0 hz0 hz1 hz2 hs0 hsz0
  go_enter Ybaf.func22, Ybaf.ntmps22
  go_upto_region 3 with (fail)
  rw [HW0.out]
  go_upto_region 4 with (at_builtin; refine wpList_append_lies _ (by rfl) _ _ _ (by rfl) B 9 i0 _ 1 16 Ybaf.underlying22 HI.out.1 HI.out.2.1 HI.out.2.2.1 HI.out.2.2.2 rfl (by omega) vlog k logs (by rfl) (HR0.out.1.alloc _) ⟨W0.heap.size, 0, none⟩ 1 1 [.string s] (by rfl) (by rfl) (World.news_of_block (cs := #[.string s]) (t := 9) (fr := (0, 0)) (heap_alloc_new W0 _)) (by simp [Value.oneCell']) (by omega) (bound_max (by omega)) (by omega) (by rw [World.size_alloc, HR0.out.2]; omega) (W0.heap.size + 1) (by simp) ?_; intro gg cap w2 hown hgrow hat hlt; have HP : Hid (w2.ownsRow B 9 1 (.slice (some ⟨gg, 0, none⟩) (k + 1) cap) (k + 1) (logs ++ [.string s]) ∧ (W0.alloc (.cells #[.string s] 9)).grownBy w2 vlog.ownBlock ∧ (vlog.ownBlock = some gg ∨ gg = W0.heap.size + 1)) := ⟨hown, hgrow, hat⟩; have c2 := cell_in (HAP.out _ _ hgrow).1 (o := 0) (u := vlog) rfl; have g2 := free_in (o := 0) (HAP.out _ _ hgrow).1; clear hown hgrow hat hlt)
  obtain ⟨W3, hW3⟩ : ∃ W, W = w2.setCell ⟨bL, 0, none⟩ (.slice (some ⟨gg, 0, none⟩) (k + 1) cap) := ⟨_, rfl⟩
  obtain ⟨p1, p2, p3⟩ := HP.out
  obtain ⟨r1, r2, r3, r4⟩ := HAP.out _ _ p2
  have hh := H.out
  have hggK : gg ≠ bK := by
    rintro rfl
    rcases p3 with e | e
    · exact hh.vK e
    · have h1 := lt_of hh.hk; have h2 := HR0.out.2; omega
  have hggL : gg ≠ bL := by
    rintro rfl
    rcases p3 with e | e
    · exact hh.vL e
    · have h2 := HR0.out.2; omega
  have hggF : gg ≠ bF := by
    rintro rfl
    rcases p3 with e | e
    · exact hh.vF e
    · have h1 := lt_of hh.hf; have h2 := HR0.out.2; omega
  have hs3 : Stay (Hs.S bK bL vlog) w W3 := by rw [hW3]; exact r4.trans (Stay.set w2 bL 0 _ (.inr (.inl rfl)))
  have hnB : ∀ b, b < B → ¬ Hs.S bK bL vlog b := fun b hb e => by
    rcases e with e | e | e
    · have := hh.BK; omega
    · have := hh.BL; omega
    · have := (hh.row.lt b e).1; omega
  have hH3 : Hs B bK bL bF fa fl fc fs (k + 1) (.slice (some ⟨gg, 0, none⟩) (k + 1) cap) (logs ++ [.string s]) W3 := by
    have hs : Stay (fun b => b = bL) w2 W3 := by rw [hW3]; exact Stay.set w2 bL 0 _ rfl
    refine ⟨hs.at_ r2 hh.KL, ?_, hs.at_ r3 (fun e => hh.LF e.symm), hs.row p1 (fun g hg e => hggL (by rw [← e]; exact Option.some.inj hg)), hh.len, hh.bo.stay hs3 hB hnB, hh.KL, hh.KF, hh.LF, hh.BK, hh.BL, hh.BF, fun e => hggK (Option.some.inj e), fun e => hggL (Option.some.inj e), fun e => hggF (Option.some.inj e)⟩
    rw [hW3, heap_setCell_same w2 bL 0 _ 22 _ r1]
    rfl
  have hnew : (Value.slice (some ⟨gg, 0, none⟩) (k + 1) cap).ownBlock = vlog.ownBlock ∨ ∃ g, w.heap.size ≤ g ∧ (Value.slice (some ⟨gg, 0, none⟩) (k + 1) cap).ownBlock = some g := by
    rcases p3 with e | e
    · exact .inl e.symm
    · exact .inr ⟨gg, by have := HR0.out.2; omega, rfl⟩
  rw [← hW3]
  have c3 := cell_in hH3.hf (o := 0) (u := .slice fa fl fc) rfl
  have HH3 : Hid (Hs B bK bL bF fa fl fc fs (k + 1) (.slice (some ⟨gg, 0, none⟩) (k + 1) cap) (logs ++ [.string s]) W3) := hH3
  have HS3 : Hid (Stay (Hs.S bK bL vlog) w W3) := hs3
  have HNW : Hid _ := hnew
  have hB3 : B ≤ W3.heap.size := Nat.le_trans hB hs3.size
  clear p1 p2 p3 r1 r2 r3 r4 hh hggK hggL hggF hH3 hs3 hnB hnew hW3 c2 g2 HP HAP HL0 HR0 HI cl0 ck zk HW0
  by_cases hlt : k < fl
  · obtain ⟨b, o, hfa, hb, hcell⟩ := HH3.out.bo k (by rw [HH3.out.len]; exact hlt)
    subst hfa
    cases hbb : fs.getD k false with
    | false =>
      rw [hbb] at hcell
      have HBB : Hid (fs.getD k false = false) := hbb
      clear hbb
      go_wp2
      go_ret
      exact ⟨⟨_, HH3.out, HNW.out⟩, HS3.out, .inl ⟨HBB.out, rfl⟩⟩
    | true =>
      rw [hbb] at hcell
      have HBB : Hid (fs.getD k false = true) := hbb
      clear hbb
      go_wp2_with (first | (go_at_call 23; refine (new_any _ W3).mono ?_; rintro _ w4 ⟨rfl, hw4⟩; have HW4 : Hid (w4 = W3.alloc (.cells #[.string ⟨#[114, 101, 102, 117, 115, 101, 100]⟩] 120)) := hw4; clear hw4))
      go_ret
      have hs4 : Stay (fun _ => False) W3 w4 := by rw [HW4.out]; exact Stay.alloc _ _ _
      refine ⟨⟨_, HH3.out.stay hs4 hB3 (fun _ _ e => e) (fun e => e) (fun e => e) (fun e => e) (fun _ _ e => e), HNW.out⟩, HS3.out.trans' hs4 (fun _ _ (e : False) => e.elim), .inr ⟨HBB.out, _, rfl, HS3.out.size, ?_⟩⟩
      rw [HW4.out]
      exact heap_alloc_new W3 _
  · have HLT : Hid (fs.getD k false = false) := by
      show _ = _
      simp [List.getD]
      rw [List.getElem?_eq_none (by rw [HH3.out.len]; omega)]
      rfl
    go_wp2
    go_ret
    exact ⟨⟨_, HH3.out, HNW.out⟩, HS3.out, .inl ⟨HLT.out, rfl⟩⟩
end Go.Proofs.YbulkcoecFmt
