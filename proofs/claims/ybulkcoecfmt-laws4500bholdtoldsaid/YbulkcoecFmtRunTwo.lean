import Derived.Test.YbulkcoecFmtHand
namespace Go.Proofs.YbulkcoecFmt
open Go.RowKit Go.Deep Go.Extern.Stop Go.Stop Go.MuLone
set_option linter.unusedVariables false
set_option linter.unusedSimpArgs false

/-- The Memory. -/
def memArr (mu : Int) (vpr vmap : Value) : Array Value := #[.slice none 0 0, .map none, .bool false, .float .f64 0, .int .i32 mu, .int .u32 0, vpr, .pointer none, .int .u64 0, .int .u64 0, .slice none 0 0, .slice none 0 0, .slice none 0 0, vmap]

/-- The lane. -/
def laneArr (bM : Nat) (taken : Int) (vr : Value) (handing : Bool) : Array Value := #[.bool false, .int .u64 0, .int .u64 taken, .int .i64 0, .int .u64 0, .pointer (some ⟨bM, 4, none⟩), .func (.func 36) #[] #[], .nilFunc, vr, .bool handing]

/-- The places. -/
structure Pl where
  B : Nat
  bK : Nat
  bL : Nat
  bF : Nat
  bM : Nat
  bN : Nat
  fa : Option Addr
  fl : Nat
  fc : Nat
  fs : List Bool
  vpr : Value
  vmap : Value

structure Pl.Ok (X : Pl) : Prop where
  MK : X.bM ≠ X.bK
  ML : X.bM ≠ X.bL
  MF : X.bM ≠ X.bF
  MN : X.bM ≠ X.bN
  NK : X.bN ≠ X.bK
  NL : X.bN ≠ X.bL
  NF : X.bN ≠ X.bF
  BM : X.B ≤ X.bM
  BN : X.B ≤ X.bN
  fl : X.fl ≤ 9223372036854775807

/-- The state while copies are handed over. -/
structure Hn (X : Pl) (mu : Int) (taken : Int) (vr : Value) (handing : Bool) (k : Nat) (vlog : Value) (logs : List Value) (w : World) : Prop where
  hs : Hs X.B X.bK X.bL X.bF X.fa X.fl X.fc X.fs k vlog logs w
  m : w.heap[X.bM]? = some (.cells (memArr mu X.vpr X.vmap) 66 (0, 0))
  n : w.heap[X.bN]? = some (.cells (laneArr X.bM taken vr handing) 86 (0, 0))
  vM : vlog.ownBlock ≠ some X.bM
  vN : vlog.ownBlock ≠ some X.bN
  B : X.B ≤ w.heap.size

theorem Hn.notM {X : Pl} (O : X.Ok) {mu taken : Int} {vr : Value} {hd : Bool} {k : Nat} {vlog : Value} {logs : List Value} {w : World} (h : Hn X mu taken vr hd k vlog logs w) : ¬ Hs.S X.bK X.bL vlog X.bM := by
  rintro (e | e | e)
  · exact O.MK e
  · exact O.ML e
  · exact h.vM e

theorem Hn.notN {X : Pl} (O : X.Ok) {mu taken : Int} {vr : Value} {hd : Bool} {k : Nat} {vlog : Value} {logs : List Value} {w : World} (h : Hn X mu taken vr hd k vlog logs w) : ¬ Hs.S X.bK X.bL vlog X.bN := by
  rintro (e | e | e)
  · exact O.NK e
  · exact O.NL e
  · exact h.vN e

/-- Nothing of the state is touched. -/
theorem Hn.stay {X : Pl} {mu taken : Int} {vr : Value} {hd : Bool} {k : Nat} {vlog : Value} {logs : List Value} {w w' : World} {S : Nat → Prop} (h : Hn X mu taken vr hd k vlog logs w) (hs : Stay S w w') (h1 : ∀ b, b < X.B → ¬ S b) (h2 : ¬ S X.bK) (h3 : ¬ S X.bL) (h4 : ¬ S X.bF) (h5 : ∀ g, vlog.ownBlock = some g → ¬ S g) (h6 : ¬ S X.bM) (h7 : ¬ S X.bN) : Hn X mu taken vr hd k vlog logs w' :=
  ⟨h.hs.stay hs h.B h1 h2 h3 h4 h5, hs.at_ h.m h6, hs.at_ h.n h7, h.vM, h.vN, Nat.le_trans h.B hs.size⟩

theorem Hn.idle {X : Pl} {mu taken : Int} {vr : Value} {hd : Bool} {k : Nat} {vlog : Value} {logs : List Value} {w w' : World} (h : Hn X mu taken vr hd k vlog logs w) (hs : Stay (fun _ => False) w w') : Hn X mu taken vr hd k vlog logs w' :=
  h.stay hs (fun _ _ e => e) (fun e => e) (fun e => e) (fun e => e) (fun _ _ e => e) (fun e => e) (fun e => e)

/-- The lock's word takes mu'. -/
theorem Hn.lock {X : Pl} (O : X.Ok) {mu taken : Int} {vr : Value} {hd : Bool} {k : Nat} {vlog : Value} {logs : List Value} {w : World} (h : Hn X mu taken vr hd k vlog logs w) (mu' : Int) : Hn X mu' taken vr hd k vlog logs (w.setCell ⟨X.bM, 4, none⟩ (.int .i32 mu')) := by
  have hs : Stay (fun b => b = X.bM) w (w.setCell ⟨X.bM, 4, none⟩ (.int .i32 mu')) := Stay.set w X.bM 4 _ rfl
  refine ⟨h.hs.stay hs h.B (fun b hb e => by have := O.BM; omega) (fun e => O.MK e.symm) (fun e => O.ML e.symm) (fun e => O.MF e.symm) (fun g hg e => h.vM (by rw [hg, e])), ?_, hs.at_ h.n (fun e => O.MN e.symm), h.vM, h.vN, Nat.le_trans h.B hs.size⟩
  rw [heap_setCell_same w X.bM 4 _ 66 _ h.m]
  rfl

/-- ready and handing of the lane. -/
theorem Hn.ready {X : Pl} (O : X.Ok) {mu taken : Int} {vr : Value} {hd : Bool} {k : Nat} {vlog : Value} {logs : List Value} {w : World} (h : Hn X mu taken vr hd k vlog logs w) (vr' : Value) : Hn X mu taken vr' hd k vlog logs (w.setCell ⟨X.bN, 8, none⟩ vr') := by
  have hs : Stay (fun b => b = X.bN) w (w.setCell ⟨X.bN, 8, none⟩ vr') := Stay.set w X.bN 8 _ rfl
  refine ⟨h.hs.stay hs h.B (fun b hb e => by have := O.BN; omega) (fun e => O.NK e.symm) (fun e => O.NL e.symm) (fun e => O.NF e.symm) (fun g hg e => h.vN (by rw [hg, e])), hs.at_ h.m O.MN, ?_, h.vM, h.vN, Nat.le_trans h.B hs.size⟩
  rw [heap_setCell_same w X.bN 8 _ 86 _ h.n]
  rfl

theorem Hn.hand {X : Pl} (O : X.Ok) {mu taken : Int} {vr : Value} {hd : Bool} {k : Nat} {vlog : Value} {logs : List Value} {w : World} (h : Hn X mu taken vr hd k vlog logs w) (hd' : Bool) : Hn X mu taken vr hd' k vlog logs (w.setCell ⟨X.bN, 9, none⟩ (.bool hd')) := by
  have hs : Stay (fun b => b = X.bN) w (w.setCell ⟨X.bN, 9, none⟩ (.bool hd')) := Stay.set w X.bN 9 _ rfl
  refine ⟨h.hs.stay hs h.B (fun b hb e => by have := O.BN; omega) (fun e => O.NK e.symm) (fun e => O.NL e.symm) (fun e => O.NF e.symm) (fun g hg e => h.vN (by rw [hg, e])), hs.at_ h.m O.MN, ?_, h.vM, h.vN, Nat.le_trans h.B hs.size⟩
  rw [heap_setCell_same w X.bN 9 _ 86 _ h.n]
  rfl

theorem Hn.taken {X : Pl} (O : X.Ok) {mu taken : Int} {vr : Value} {hd : Bool} {k : Nat} {vlog : Value} {logs : List Value} {w : World} (h : Hn X mu taken vr hd k vlog logs w) (t' : Int) : Hn X mu t' vr hd k vlog logs (w.setCell ⟨X.bN, 2, none⟩ (.int .u64 t')) := by
  have hs : Stay (fun b => b = X.bN) w (w.setCell ⟨X.bN, 2, none⟩ (.int .u64 t')) := Stay.set w X.bN 2 _ rfl
  refine ⟨h.hs.stay hs h.B (fun b hb e => by have := O.BN; omega) (fun e => O.NK e.symm) (fun e => O.NL e.symm) (fun e => O.NF e.symm) (fun g hg e => h.vN (by rw [hg, e])), hs.at_ h.m O.MN, ?_, h.vM, h.vN, Nat.le_trans h.B hs.size⟩
  rw [heap_setCell_same w X.bN 2 _ 86 _ h.n]
  rfl

/-- What a hand-over touches. -/
def Pl.T (X : Pl) (vlog : Value) : Nat → Prop := fun b => Hs.S X.bK X.bL vlog b ∨ b = X.bM

/-- The log's row stands apart, or is new. -/
def NewRow (w : World) (v v' : Value) : Prop := v'.ownBlock = v.ownBlock ∨ ∃ g, w.heap.size ≤ g ∧ v'.ownBlock = some g

theorem NewRow.ne {w : World} {v v' : Value} (h : NewRow w v v') {b : Nat} (hb : b < w.heap.size) (hv : v.ownBlock ≠ some b) : v'.ownBlock ≠ some b := by
  rcases h with e | ⟨g, h1, h2⟩
  · rw [e]; exact hv
  · rw [h2]; intro e; have := Option.some.inj e; omega

set_option maxRecDepth 100000 in
set_option maxHeartbeats 4000000 in
/-- The call of take, the lock taken again behind it. -/
theorem run2_any (F : Interp) (X : Pl) (O : X.Ok) (bQ bm pb : Nat) (taken : Int) (vr : Value) (hd : Bool) (k : Nat) (vlog : Value) (logs : List Value) (id seq : Int) (s to : ByteArray) (w : World) (hF : F.answers w.tape) (h : Hn X 0 taken vr hd k vlog logs w) (hk : k ≤ 900)
    (hq : w.heap[bQ]? = some (.cells #[.pointer (some ⟨X.bN, 5, none⟩)] 131 (0, 0))) (hm : w.heap[bm]? = some (.cells #[.pointer (some ⟨pb, 0, none⟩), hval X.bK X.bL X.bF] 96 (0, 0)))
    (hp : w.heap[pb]? = some (.cells (pendArr id s to seq) 75 (0, 0))) (hpn : ¬ Hs.S X.bK X.bL vlog pb) (hqn : ¬ Hs.S X.bK X.bL vlog bQ) (hmn : ¬ Hs.S X.bK X.bL vlog bm) :
    Calls Ybaf.prog 50 #[.pointer (some ⟨bQ, 0, none⟩), .pointer (some ⟨bm, 0, none⟩)] w fun e w' =>
      (∃ vlog', Hn X 1 taken vr hd (k + 1) vlog' (logs ++ [.string s]) w' ∧ NewRow w vlog vlog') ∧ Stay (X.T vlog) w w' ∧
      ((X.fs.getD k false = false ∧ e = .returned .nilIface) ∨ (X.fs.getD k false = true ∧ ∃ a, e = .returned (.iface 136 (.pointer (some a))))) := by
  have cq := cell_in hq (o := 0) (u := .pointer (some ⟨X.bN, 5, none⟩)) rfl
  have cN5 := cell_in h.n (o := 5) (u := .pointer (some ⟨X.bM, 4, none⟩)) rfl
  have HSS : Hid ((fun w' : World => w'.cell? ⟨bQ, 0, none⟩ = some (.pointer (some ⟨X.bN, 5, none⟩)) ∧ w'.cell? ⟨X.bN, 6, none⟩ = some (.func (.func 36) #[] #[]) ∧ w'.cell? ⟨bm, 0, none⟩ = some (.pointer (some ⟨pb, 0, none⟩)) ∧ w'.cell? ⟨bm, 1, none⟩ = some (hval X.bK X.bL X.bF)) w.drew) :=
    ⟨cq, cell_in h.n (o := 6) rfl, cell_in hm (o := 0) rfl, cell_in hm (o := 1) rfl⟩
  have HHA : Hid (Calls Ybaf.prog 36 #[.agg #[.pointer (some ⟨pb, 0, none⟩), hval X.bK X.bL X.bF]] w.drew fun e w' =>
      (∃ vlog', Hs X.B X.bK X.bL X.bF X.fa X.fl X.fc X.fs (k + 1) vlog' (logs ++ [.string s]) w' ∧ (vlog'.ownBlock = vlog.ownBlock ∨ ∃ g, w.heap.size ≤ g ∧ vlog'.ownBlock = some g)) ∧ Stay (Hs.S X.bK X.bL vlog) w.drew w' ∧
      ((X.fs.getD k false = false ∧ e = .returned .nilIface) ∨ (X.fs.getD k false = true ∧ ∃ a, e = .returned (.iface 136 (.pointer (some a)))))) :=
    hand_any F X.B X.bK X.bL X.bF pb X.fa X.fl X.fc X.fs k vlog logs id seq s to w.drew hF (h.hs.stay (Stay.refl (fun _ => False) w).drew h.B (fun _ _ e => e) (fun e => e) (fun e => e) (fun e => e) (fun _ _ e => e)) hk h.B O.fl hp hpn
  have HH : Hid (Hn X 0 taken vr hd k vlog logs w ∧ w.heap[bQ]? = some (.cells #[.pointer (some ⟨X.bN, 5, none⟩)] 131 (0, 0)) ∧ w.heap[bm]? = some (.cells #[.pointer (some ⟨pb, 0, none⟩), hval X.bK X.bL X.bF] 96 (0, 0)) ∧ ¬ Hs.S X.bK X.bL vlog bQ ∧ ¬ Hs.S X.bK X.bL vlog bm) := ⟨h, hq, hm, hqn, hmn⟩
  clear h hq hm hp hpn hF hqn hmn
  go_enter_defers Ybaf.func50, Ybaf.ntmps50
  go_upto_region 2 with (fail)
  refine wp_region_noPanic ?_
  refine wp_region_L (fun w' => w'.cell? ⟨bQ, 0, none⟩ = some (.pointer (some ⟨X.bN, 5, none⟩)) ∧ w'.cell? ⟨X.bN, 6, none⟩ = some (.func (.func 36) #[] #[]) ∧ w'.cell? ⟨bm, 0, none⟩ = some (.pointer (some ⟨pb, 0, none⟩)) ∧ w'.cell? ⟨bm, 1, none⟩ = some (hval X.bK X.bL X.bF)) 6 7 (by kernel_rfl) (by kernel_rfl) ?_
  refine wpU_take (i := 0) (v := ?_) rfl (by kernel_rfl) (by kernel_rfl) (by kernel_rfl) (by kernel_rfl) (fun _ _ _ h => h) (by rfl) ?_ HSS.out ?_
  rotate_left
  · (intro wS hwS; (try dsimp only at hwS); go_simp; try with_reducible rfl)
  simp only [Act.put, List.getElem_toArray, List.getElem_cons_zero, List.getElem_cons_succ, List.setIfInBounds_toArray, List.set_cons_zero, List.set_cons_succ]
  refine wpU_take (i := 1) (v := ?_) rfl (by kernel_rfl) (by kernel_rfl) (by kernel_rfl) (by kernel_rfl) (fun _ _ _ h => h) (by rfl) ?_ HSS.out ?_
  rotate_left
  · (intro wS hwS; (try dsimp only at hwS); go_simp; try with_reducible rfl)
  simp only [Act.put, List.getElem_toArray, List.getElem_cons_zero, List.getElem_cons_succ, List.setIfInBounds_toArray, List.set_cons_zero, List.set_cons_succ]
  refine wpU_take (i := 2) (v := ?_) rfl (by kernel_rfl) (by kernel_rfl) (by kernel_rfl) (by kernel_rfl) (fun _ _ _ h => h) (by rfl) ?_ HSS.out ?_
  rotate_left
  · (intro wS hwS; (try dsimp only at hwS); go_simp; try with_reducible rfl)
  simp only [Act.put, List.getElem_toArray, List.getElem_cons_zero, List.getElem_cons_succ, List.setIfInBounds_toArray, List.set_cons_zero, List.set_cons_succ]
  refine wpU_take (i := 3) (v := ?_) rfl (by kernel_rfl) (by kernel_rfl) (by kernel_rfl) (by kernel_rfl) (fun _ _ _ h => h) (by rfl) ?_ HSS.out ?_
  rotate_left
  · (intro wS hwS; (try dsimp only at hwS); go_simp; try with_reducible rfl)
  simp only [Act.put, List.getElem_toArray, List.getElem_cons_zero, List.getElem_cons_succ, List.setIfInBounds_toArray, List.set_cons_zero, List.set_cons_succ]
  refine wpU_take (i := 4) (v := ?_) rfl (by kernel_rfl) (by kernel_rfl) (by kernel_rfl) (by kernel_rfl) (fun _ _ _ h => h) (by rfl) ?_ HSS.out ?_
  rotate_left
  · (intro wS hwS; (try dsimp only at hwS); go_simp; try with_reducible rfl)
  simp only [Act.put, List.getElem_toArray, List.getElem_cons_zero, List.getElem_cons_succ, List.setIfInBounds_toArray, List.set_cons_zero, List.set_cons_succ]
  refine wpL_one (i := 5) (by kernel_rfl) rfl (fun K hK => ?_)
  simp only [List.getElem_toArray, List.getElem_cons_zero, List.getElem_cons_succ]
  go_simp
  refine HHA.out.mono ?_
  rintro e w2 ⟨⟨vlog', q1, q2⟩, q3, q4⟩
  obtain ⟨x1, x2, x3, x4, x5⟩ := HH.out
  have q3' : Stay (Hs.S X.bK X.bL vlog) w w2 := q3.of_drew
  have hS2 : (fun w' : World => w'.cell? ⟨bQ, 0, none⟩ = some (.pointer (some ⟨X.bN, 5, none⟩)) ∧ w'.cell? ⟨X.bN, 6, none⟩ = some (.func (.func 36) #[] #[]) ∧ w'.cell? ⟨bm, 0, none⟩ = some (.pointer (some ⟨pb, 0, none⟩)) ∧ w'.cell? ⟨bm, 1, none⟩ = some (hval X.bK X.bL X.bF)) w2 := by
    have y1 := q3'.at_ x2 x4
    have y2 := q3'.at_ x3 x5
    have y3 := q3'.at_ x1.n (x1.notN O)
    exact ⟨cell_in y1 (o := 0) rfl, cell_in y3 (o := 6) rfl, cell_in y2 (o := 0) rfl, cell_in y2 (o := 1) rfl⟩
  have hN2 : Hn X 0 taken vr hd (k + 1) vlog' (logs ++ [.string s]) w2 :=
    ⟨q1, q3'.at_ x1.m (x1.notM O), q3'.at_ x1.n (x1.notN O), NewRow.ne q2 (lt_of x1.m) x1.vM, NewRow.ne q2 (lt_of x1.n) x1.vN, Nat.le_trans x1.B q3'.size⟩
  have cM := cell_in hN2.m (o := 4) (u := .int .i32 0) rfl
  have zM := free_in hN2.m (o := 4)
  have HLD : Hid (∀ u, CallsD Ybaf.prog 16 #[.pointer (some ⟨X.bM, 4, none⟩)] u w2 fun e u' w' => u' = u ∧ (e = .returned (.tuple #[]) ∧ w' = w2.setCell ⟨X.bM, 4, none⟩ (.int .i32 1))) := fun u => lock_deferred ⟨X.bM, 4, none⟩ u w2 cM zM
  have HPO : Hid ((∃ vlog', Hn X 1 taken vr hd (k + 1) vlog' (logs ++ [.string s]) (w2.setCell ⟨X.bM, 4, none⟩ (.int .i32 1)) ∧ NewRow w vlog vlog') ∧ Stay (X.T vlog) w (w2.setCell ⟨X.bM, 4, none⟩ (.int .i32 1))) :=
    ⟨⟨vlog', hN2.lock O 1, q2⟩, (q3'.mono (fun b _ e => .inl e)).trans (Stay.set w2 X.bM 4 _ (.inr rfl))⟩
  clear q1 q2 q3 q3' x1 x2 x3 x4 x5 hN2 cM zM HSS HHA HH cq cN5
  rcases q4 with ⟨hb, rfl⟩ | ⟨hb, a, rfl⟩
  · have HBB : Hid (X.fs.getD k false = false) := hb
    refine hK.out _ _ (fun _ => hS2) ?_
    clear hK K hS2 hb
    try simp only [Act.put, List.getElem_toArray, List.getElem_cons_zero, List.getElem_cons_succ, List.setIfInBounds_toArray, List.set_cons_zero, List.set_cons_succ]
    refine wpL_one (i := 6) (by kernel_rfl) rfl (fun K hK => ?_)
    simp only [List.getElem_toArray, List.getElem_cons_zero, List.getElem_cons_succ]
    go_simp
    refine hK.out _ _ (fun h => absurd rfl h) ?_
    clear hK K
    refine wpL_done (by kernel_rfl) ?_ _
    refine NoPanic.normal ?_
    go_wp2
    refine leaves_cons (f := 16) (args := #[.pointer (some ⟨X.bM, 4, none⟩)]) (by simp) (by simp [go_sem]) ?_
    refine (HLD.out .returning).mono ?_
    rintro e u' w'' ⟨rfl, rfl, rfl⟩
    exact ⟨_, results_tmp rfl _ _ _, HPO.out.1, HPO.out.2, .inl ⟨HBB.out, rfl⟩⟩
  · have HBB : Hid (X.fs.getD k false = true) := hb
    refine hK.out _ _ (fun _ => hS2) ?_
    clear hK K hS2 hb
    try simp only [Act.put, List.getElem_toArray, List.getElem_cons_zero, List.getElem_cons_succ, List.setIfInBounds_toArray, List.set_cons_zero, List.set_cons_succ]
    refine wpL_one (i := 6) (by kernel_rfl) rfl (fun K hK => ?_)
    simp only [List.getElem_toArray, List.getElem_cons_zero, List.getElem_cons_succ]
    go_simp
    refine hK.out _ _ (fun h => absurd rfl h) ?_
    clear hK K
    refine wpL_done (by kernel_rfl) ?_ _
    refine NoPanic.normal ?_
    go_wp2
    refine leaves_cons (f := 16) (args := #[.pointer (some ⟨X.bM, 4, none⟩)]) (by simp) (by simp [go_sem]) ?_
    refine (HLD.out .returning).mono ?_
    rintro e u' w'' ⟨rfl, rfl, rfl⟩
    exact ⟨_, results_tmp rfl _ _ _, HPO.out.1, HPO.out.2, .inr ⟨HBB.out, _, rfl⟩⟩
end Go.Proofs.YbulkcoecFmt
