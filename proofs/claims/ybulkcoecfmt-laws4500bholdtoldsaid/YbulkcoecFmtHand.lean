import Derived.Test.YbulkcoecFmtHandler
namespace Go.Proofs.YbulkcoecFmt
open Go.RowKit Go.Deep Go.Extern.Stop Go.Stop
set_option linter.unusedVariables false
set_option linter.unusedSimpArgs false

/-- A pending copy. -/
def pendArr (id : Int) (fr to : ByteArray) (seq : Int) : Array Value := #[.int .u64 id, .string fr, .string to, .slice none 0 0, .int .i64 0, .int .i64 1, .int .u64 seq, .int .u64 0]

/-- The handler, as a value. -/
def hval (bK bL bF : Nat) : Value := .func (.func 22) #[] #[.pointer (some ⟨bK, 0, none⟩), .pointer (some ⟨bL, 0, none⟩), .pointer (some ⟨bF, 0, none⟩)]

set_option maxRecDepth 100000 in
set_option maxHeartbeats 4000000 in
/-- A copy is handed to the handler. -/
theorem hand_any (F : Interp) (B bK bL bF pb : Nat) (fa : Option Addr) (fl fc : Nat) (fs : List Bool) (k : Nat) (vlog : Value) (logs : List Value) (id seq : Int) (s to : ByteArray) (w : World) (hF : F.answers w.tape) (h : Hs B bK bL bF fa fl fc fs k vlog logs w) (hk : k ≤ 900) (hB : B ≤ w.heap.size) (hfl : fl ≤ 9223372036854775807)
    (hp : w.heap[pb]? = some (.cells (pendArr id s to seq) 75 (0, 0))) (hpn : ¬ Hs.S bK bL vlog pb) :
    Calls Ybaf.prog 36 #[.agg #[.pointer (some ⟨pb, 0, none⟩), hval bK bL bF]] w fun e w' =>
      (∃ vlog', Hs B bK bL bF fa fl fc fs (k + 1) vlog' (logs ++ [.string s]) w' ∧ (vlog'.ownBlock = vlog.ownBlock ∨ ∃ g, w.heap.size ≤ g ∧ vlog'.ownBlock = some g)) ∧ Stay (Hs.S bK bL vlog) w w' ∧
      ((fs.getD k false = false ∧ e = .returned .nilIface) ∨ (fs.getD k false = true ∧ ∃ a, e = .returned (.iface 136 (.pointer (some a))))) := by
  obtain ⟨D, hD⟩ : ∃ D, w.heap.size = D := ⟨_, rfl⟩
  obtain ⟨W1, hW1⟩ : ∃ W, W = w.alloc (.cells #[.pointer (some ⟨pb, 0, none⟩), hval bK bL bF] 96) := ⟨_, rfl⟩
  have hs1 : ∀ S, Stay S w W1 := fun S => by rw [hW1]; exact Stay.alloc _ _ _
  have hD1 : W1.heap[D]? = some (.cells #[.pointer (some ⟨pb, 0, none⟩), hval bK bL bF] 96 (0, 0)) := by rw [hW1, ← hD]; exact heap_alloc_new w _
  have hp1 : W1.heap[pb]? = some (.cells (pendArr id s to seq) 75 (0, 0)) := (hs1 (fun _ => False)).at_ hp (fun e => e)
  have hH1 : Hs B bK bL bF fa fl fc fs k vlog logs W1 := h.stay (hs1 (fun _ => False)) hB (fun _ _ e => e) (fun e => e) (fun e => e) (fun e => e) (fun _ _ e => e)
  have hDn : ¬ Hs.S bK bL vlog D := by
    have h1 := lt_of h.hk; have h2 := lt_of h.hl
    rintro (e | e | e)
    · omega
    · omega
    · have := (h.row.lt D e).2; omega
  have HSS : Hid ((fun w' : World => w'.cell? ⟨D, 0, none⟩ = some (.pointer (some ⟨pb, 0, none⟩)) ∧ w'.cell? ⟨D, 1, none⟩ = some (hval bK bL bF) ∧ w'.cell? ⟨pb, 1, none⟩ = some (.string s) ∧ w'.cell? ⟨pb, 3, none⟩ = some (.slice none 0 0)) W1.drew) :=
    ⟨cell_in hD1 (o := 0) rfl, cell_in hD1 (o := 1) rfl, cell_in hp1 (o := 1) rfl, cell_in hp1 (o := 3) rfl⟩
  have HHC : Hid (Calls Ybaf.prog 22 #[.string s, .slice none 0 0, .pointer (some ⟨bK, 0, none⟩), .pointer (some ⟨bL, 0, none⟩), .pointer (some ⟨bF, 0, none⟩)] W1.drew fun e w' =>
      (∃ vlog', Hs B bK bL bF fa fl fc fs (k + 1) vlog' (logs ++ [.string s]) w' ∧ (vlog'.ownBlock = vlog.ownBlock ∨ ∃ g, W1.heap.size ≤ g ∧ vlog'.ownBlock = some g)) ∧ Stay (Hs.S bK bL vlog) W1.drew w' ∧
      ((fs.getD k false = false ∧ e = .returned .nilIface) ∨ (fs.getD k false = true ∧ ∃ a, e = .returned (.iface 118 (.pointer (some ⟨a, 0, none⟩))) ∧ W1.heap.size ≤ a ∧ w'.heap[a]? = some (.cells #[.string ⟨#[114, 101, 102, 117, 115, 101, 100]⟩] 120 (0, 0))))) :=
    handler_any B bK bL bF fa fl fc fs k vlog logs s (.slice none 0 0) W1.drew (hH1.stay (Stay.refl (fun _ => False) W1).drew (Nat.le_trans hB (hs1 (fun _ => False)).size) (fun _ _ e => e) (fun e => e) (fun e => e) (fun e => e) (fun _ _ e => e)) hk (Nat.le_trans hB (hs1 (fun _ => False)).size) hfl
  have HX : Hid (W1.heap[D]? = some (.cells #[.pointer (some ⟨pb, 0, none⟩), hval bK bL bF] 96 (0, 0)) ∧ W1.heap[pb]? = some (.cells (pendArr id s to seq) 75 (0, 0)) ∧ (∀ S, Stay S w W1) ∧ ¬ Hs.S bK bL vlog D ∧ ¬ Hs.S bK bL vlog pb ∧ F.answers w.tape) := ⟨hD1, hp1, hs1, hDn, hpn, hF⟩
  have HW1 : Hid (w.alloc (.cells #[.pointer (some ⟨pb, 0, none⟩), hval bK bL bF] 96) = W1) := hW1.symm
  have HD : Hid (w.heap.size = D) := hD
  clear h hD hW1 hs1 hD1 hp1 hH1 hDn hp hpn hF
  go_enter Ybaf.func36, Ybaf.ntmps36
  go_upto_region 1 with (fail)
  rw [HW1.out, HD.out]
  refine wp_region_L (fun w' => w'.cell? ⟨D, 0, none⟩ = some (.pointer (some ⟨pb, 0, none⟩)) ∧ w'.cell? ⟨D, 1, none⟩ = some (hval bK bL bF) ∧ w'.cell? ⟨pb, 1, none⟩ = some (.string s) ∧ w'.cell? ⟨pb, 3, none⟩ = some (.slice none 0 0)) 15 16 (by kernel_rfl) (by kernel_rfl) ?_
  refine wpU_take (i := 0) (v := ?_) rfl (by kernel_rfl) (by kernel_rfl) (by kernel_rfl) (by kernel_rfl) (fun _ _ _ h => h) (by rfl) ?_ HSS.out ?_
  rotate_left
  · (intro wS hwS; (try dsimp only at hwS); go_simp; try with_reducible rfl)
  simp only [Act.put, List.getElem_toArray, List.getElem_cons_zero, List.getElem_cons_succ, List.setIfInBounds_toArray, List.set_cons_zero, List.set_cons_succ]
  refine wpU_take (i := 1) (v := ?_) rfl (by kernel_rfl) (by kernel_rfl) (by kernel_rfl) (by kernel_rfl) (fun _ _ _ h => h) (by rfl) ?_ HSS.out ?_
  rotate_left
  · (intro wS hwS; (try dsimp only at hwS); go_simp; try with_reducible rfl)
  simp only [Act.put, List.getElem_toArray, List.getElem_cons_zero, List.getElem_cons_succ, List.setIfInBounds_toArray, List.set_cons_zero, List.set_cons_succ]
  refine wpU_take (i := 2) (v := ?_) rfl (by kernel_rfl) (by kernel_rfl) (by kernel_rfl) (by kernel_rfl) (fun _ _ _ h => h) (by rfl) ?_ HSS.out ?_
  rotate_left
  · (intro wS hwS; (try dsimp only at hwS); go_simp; try with_reducible rfl)
  simp only [Act.put, List.getElem_toArray, List.getElem_cons_zero, List.getElem_cons_succ, List.setIfInBounds_toArray, List.set_cons_zero, List.set_cons_succ]
  refine wpU_take (i := 3) (v := ?_) rfl (by kernel_rfl) (by kernel_rfl) (by kernel_rfl) (by kernel_rfl) (fun _ _ _ h => h) (by rfl) ?_ HSS.out ?_
  rotate_left
  · (intro wS hwS; (try dsimp only at hwS); go_simp; try with_reducible rfl)
  simp only [Act.put, List.getElem_toArray, List.getElem_cons_zero, List.getElem_cons_succ, List.setIfInBounds_toArray, List.set_cons_zero, List.set_cons_succ]
  refine wpU_take (i := 4) (v := ?_) rfl (by kernel_rfl) (by kernel_rfl) (by kernel_rfl) (by kernel_rfl) (fun _ _ _ h => h) (by rfl) ?_ HSS.out ?_
  rotate_left
  · (intro wS hwS; (try dsimp only at hwS); go_simp; try with_reducible rfl)
  simp only [Act.put, List.getElem_toArray, List.getElem_cons_zero, List.getElem_cons_succ, List.setIfInBounds_toArray, List.set_cons_zero, List.set_cons_succ]
  refine wpU_take (i := 5) (v := ?_) rfl (by kernel_rfl) (by kernel_rfl) (by kernel_rfl) (by kernel_rfl) (fun _ _ _ h => h) (by rfl) ?_ HSS.out ?_
  rotate_left
  · (intro wS hwS; (try dsimp only at hwS); go_simp; try with_reducible rfl)
  simp only [Act.put, List.getElem_toArray, List.getElem_cons_zero, List.getElem_cons_succ, List.setIfInBounds_toArray, List.set_cons_zero, List.set_cons_succ]
  refine wpU_take (i := 6) (v := ?_) rfl (by kernel_rfl) (by kernel_rfl) (by kernel_rfl) (by kernel_rfl) (fun _ _ _ h => h) (by rfl) ?_ HSS.out ?_
  rotate_left
  · (intro wS hwS; (try dsimp only at hwS); go_simp; try with_reducible rfl)
  simp only [Act.put, List.getElem_toArray, List.getElem_cons_zero, List.getElem_cons_succ, List.setIfInBounds_toArray, List.set_cons_zero, List.set_cons_succ]
  refine wpU_take (i := 7) (v := ?_) rfl (by kernel_rfl) (by kernel_rfl) (by kernel_rfl) (by kernel_rfl) (fun _ _ _ h => h) (by rfl) ?_ HSS.out ?_
  rotate_left
  · (intro wS hwS; (try dsimp only at hwS); go_simp; try with_reducible rfl)
  simp only [Act.put, List.getElem_toArray, List.getElem_cons_zero, List.getElem_cons_succ, List.setIfInBounds_toArray, List.set_cons_zero, List.set_cons_succ]
  refine wpU_take (i := 8) (v := ?_) rfl (by kernel_rfl) (by kernel_rfl) (by kernel_rfl) (by kernel_rfl) (fun _ _ _ h => h) (by rfl) ?_ HSS.out ?_
  rotate_left
  · (intro wS hwS; (try dsimp only at hwS); go_simp; try with_reducible rfl)
  simp only [Act.put, List.getElem_toArray, List.getElem_cons_zero, List.getElem_cons_succ, List.setIfInBounds_toArray, List.set_cons_zero, List.set_cons_succ]
  refine wpU_take (i := 9) (v := ?_) rfl (by kernel_rfl) (by kernel_rfl) (by kernel_rfl) (by kernel_rfl) (fun _ _ _ h => h) (by rfl) ?_ HSS.out ?_
  rotate_left
  · (intro wS hwS; (try dsimp only at hwS); go_simp; try with_reducible rfl)
  simp only [Act.put, List.getElem_toArray, List.getElem_cons_zero, List.getElem_cons_succ, List.setIfInBounds_toArray, List.set_cons_zero, List.set_cons_succ]
  refine wpU_take (i := 10) (v := ?_) rfl (by kernel_rfl) (by kernel_rfl) (by kernel_rfl) (by kernel_rfl) (fun _ _ _ h => h) (by rfl) ?_ HSS.out ?_
  rotate_left
  · (intro wS hwS; (try dsimp only at hwS); go_simp; try with_reducible rfl)
  simp only [Act.put, List.getElem_toArray, List.getElem_cons_zero, List.getElem_cons_succ, List.setIfInBounds_toArray, List.set_cons_zero, List.set_cons_succ]
  refine wpU_take (i := 11) (v := ?_) rfl (by kernel_rfl) (by kernel_rfl) (by kernel_rfl) (by kernel_rfl) (fun _ _ _ h => h) (by rfl) ?_ HSS.out ?_
  rotate_left
  · (intro wS hwS; (try dsimp only at hwS); go_simp; try with_reducible rfl)
  simp only [Act.put, List.getElem_toArray, List.getElem_cons_zero, List.getElem_cons_succ, List.setIfInBounds_toArray, List.set_cons_zero, List.set_cons_succ]
  refine wpU_take (i := 12) (v := ?_) rfl (by kernel_rfl) (by kernel_rfl) (by kernel_rfl) (by kernel_rfl) (fun _ _ _ h => h) (by rfl) ?_ HSS.out ?_
  rotate_left
  · (intro wS hwS; (try dsimp only at hwS); go_simp; try with_reducible rfl)
  simp only [Act.put, List.getElem_toArray, List.getElem_cons_zero, List.getElem_cons_succ, List.setIfInBounds_toArray, List.set_cons_zero, List.set_cons_succ]
  refine wpU_take (i := 13) (v := ?_) rfl (by kernel_rfl) (by kernel_rfl) (by kernel_rfl) (by kernel_rfl) (fun _ _ _ h => h) (by rfl) ?_ HSS.out ?_
  rotate_left
  · (intro wS hwS; (try dsimp only at hwS); go_simp; try with_reducible rfl)
  simp only [Act.put, List.getElem_toArray, List.getElem_cons_zero, List.getElem_cons_succ, List.setIfInBounds_toArray, List.set_cons_zero, List.set_cons_succ]
  refine wpL_one (i := 14) (by kernel_rfl) rfl (fun K hK => ?_)
  simp only [List.getElem_toArray, List.getElem_cons_zero, List.getElem_cons_succ]
  simp only [hval]
  go_simp
  refine HHC.out.mono ?_
  rintro e w2 ⟨⟨vlog', q1, q2⟩, q3, q4⟩
  have hS2 : (fun w' : World => w'.cell? ⟨D, 0, none⟩ = some (.pointer (some ⟨pb, 0, none⟩)) ∧ w'.cell? ⟨D, 1, none⟩ = some (hval bK bL bF) ∧ w'.cell? ⟨pb, 1, none⟩ = some (.string s) ∧ w'.cell? ⟨pb, 3, none⟩ = some (.slice none 0 0)) w2 := by
    obtain ⟨x1, x2, x3, x4, x5, x6⟩ := HX.out
    have y1 := q3.at_ (b := D) x1 x4
    have y2 := q3.at_ (b := pb) x2 x5
    exact ⟨cell_in y1 (o := 0) rfl, cell_in y1 (o := 1) rfl, cell_in y2 (o := 1) rfl, cell_in y2 (o := 3) rfl⟩
  have HPO : Hid ((∃ vlog', Hs B bK bL bF fa fl fc fs (k + 1) vlog' (logs ++ [.string s]) w2 ∧ (vlog'.ownBlock = vlog.ownBlock ∨ ∃ g, w.heap.size ≤ g ∧ vlog'.ownBlock = some g)) ∧ Stay (Hs.S bK bL vlog) w w2) := by
    obtain ⟨x1, x2, x3, x4, x5, x6⟩ := HX.out
    refine ⟨⟨vlog', q1, ?_⟩, (x3 _).trans q3.of_drew⟩
    rcases q2 with e | ⟨g, e1, e2⟩
    · exact .inl e
    · exact .inr ⟨g, Nat.le_trans (x3 (fun _ => False)).size e1, e2⟩
  have HPB : Hid (w2.heap[pb]? = some (.cells (pendArr id s to seq) 75 (0, 0)) ∧ w2.heap[D]? = some (.cells #[.pointer (some ⟨pb, 0, none⟩), hval bK bL bF] 96 (0, 0)) ∧ F.answers w2.tape) := by
    obtain ⟨x1, x2, x3, x4, x5, x6⟩ := HX.out
    exact ⟨q3.at_ (b := pb) x2 x5, q3.at_ (b := D) x1 x4, by rw [q3.tape]; show F.answers W1.tape; rw [(x3 (fun _ => False)).tape]; exact x6⟩
  clear q1 q2 q3 HSS HHC HX HW1 HD
  rcases q4 with ⟨hb, rfl⟩ | ⟨hb, a, rfl, ha1, ha2⟩
  · have HBB : Hid (fs.getD k false = false) := hb
    refine hK.out _ _ (fun _ => hS2) ?_
    clear hK K hS2 hb
    try simp only [Act.put, List.getElem_toArray, List.getElem_cons_zero, List.getElem_cons_succ, List.setIfInBounds_toArray, List.set_cons_zero, List.set_cons_succ]
    refine wpL_one (i := 15) (by kernel_rfl) rfl (fun K hK => ?_)
    simp only [List.getElem_toArray, List.getElem_cons_zero, List.getElem_cons_succ]
    go_simp
    refine hK.out _ _ (fun h => absurd rfl h) ?_
    clear hK K
    refine wpL_done (by kernel_rfl) ?_ _
    go_wp2
    go_ret
    exact ⟨HPO.out.1, HPO.out.2, .inl ⟨HBB.out, rfl⟩⟩
  · have HBB : Hid (fs.getD k false = true) := hb
    have HAA : Hid (w2.heap[a]? = some (.cells #[.string ⟨#[114, 101, 102, 117, 115, 101, 100]⟩] 120 (0, 0))) := ha2
    refine hK.out _ _ (fun _ => hS2) ?_
    clear hK K hS2 hb ha1 ha2
    try simp only [Act.put, List.getElem_toArray, List.getElem_cons_zero, List.getElem_cons_succ, List.setIfInBounds_toArray, List.set_cons_zero, List.set_cons_succ]
    refine wpL_one (i := 15) (by kernel_rfl) rfl (fun K hK => ?_)
    simp only [List.getElem_toArray, List.getElem_cons_zero, List.getElem_cons_succ]
    go_simp
    refine hK.out _ _ (fun h => absurd rfl h) ?_
    clear hK K
    refine wpL_done (by kernel_rfl) ?_ _
    go_upto_region 3 with (fail)
    obtain ⟨E, hE⟩ : ∃ E, w2.heap.size = E := ⟨_, rfl⟩
    have HE : Hid (w2.heap.size = E) := hE
    have HS3 : Hid ((fun w' : World => w'.cell? ⟨D, 0, none⟩ = some (.pointer (some ⟨pb, 0, none⟩)) ∧ w'.cell? ⟨pb, 0, none⟩ = some (.int .u64 id) ∧ w'.cell? ⟨pb, 1, none⟩ = some (.string s) ∧ w'.cell? ⟨pb, 2, none⟩ = some (.string to)) w2.drew) :=
      ⟨cell_in HPB.out.2.1 (o := 0) rfl, cell_in HPB.out.1 (o := 0) rfl, cell_in HPB.out.1 (o := 1) rfl, cell_in HPB.out.1 (o := 2) rfl⟩
    obtain ⟨W3, hW3⟩ : ∃ W, W = (w2.alloc (.cells #[.iface 26 (.int .u64 id), .iface 9 (.string s), .iface 9 (.string to), .iface 118 (.pointer (some ⟨a, 0, none⟩))] 20)).drew := ⟨_, rfl⟩
    have hs3 : Stay (fun _ => False) w2 W3 := by rw [hW3]; exact (Stay.alloc _ _ _).drew
    have hE3 : W3.heap[E]? = some (.cells #[.iface 26 (.int .u64 id), .iface 9 (.string s), .iface 9 (.string to), .iface 118 (.pointer (some ⟨a, 0, none⟩))] 20 (0, 0)) := by rw [hW3, ← hE]; exact heap_alloc_new w2 _
    have HS3' : Hid ((fun w' : World => w'.cell? ⟨D, 0, none⟩ = some (.pointer (some ⟨pb, 0, none⟩)) ∧ w'.cell? ⟨pb, 0, none⟩ = some (.int .u64 id) ∧ w'.cell? ⟨pb, 1, none⟩ = some (.string s) ∧ w'.cell? ⟨pb, 2, none⟩ = some (.string to)) W3) := by
      have y1 := hs3.at_ HPB.out.1 (fun e => e)
      have y2 := hs3.at_ HPB.out.2.1 (fun e => e)
      exact ⟨cell_in y2 (o := 0) rfl, cell_in y1 (o := 0) rfl, cell_in y1 (o := 1) rfl, cell_in y1 (o := 2) rfl⟩
    have HER : Hid (Calls Ybaf.prog 31 #[.string ⟨#[110, 101, 116, 119, 111, 114, 107, 58, 32, 99, 111, 112, 121, 32, 37, 100, 32, 102, 114, 111, 109, 32, 37, 113, 32, 116, 111, 32, 37, 113, 58, 32, 37, 119]⟩, .slice (some ⟨E, 0, none⟩) 4 4] W3 fun e w' => e = .returned (.iface 136 (.pointer (some ⟨W3.heap.size, 0, none⟩))) ∧ Below W3.heap.size W3 w') :=
      errorf_hand F id s to ⟨#[114, 101, 102, 117, 115, 101, 100]⟩ ⟨a, 0, none⟩ E W3 (by rw [hs3.tape]; exact HPB.out.2.2) (cell_in hE3 (o := 0) rfl) (cell_in hE3 (o := 1) rfl) (cell_in hE3 (o := 2) rfl) (cell_in hE3 (o := 3) rfl) (cell_in (hs3.at_ HAA.out (fun e => e)) (o := 0) rfl)
    have HW3 : Hid ((w2.alloc (.cells #[.iface 26 (.int .u64 id), .iface 9 (.string s), .iface 9 (.string to), .iface 118 (.pointer (some ⟨a, 0, none⟩))] 20)).drew = W3) := hW3.symm
    have HT3 : Hid (Stay (fun _ => False) w2 W3) := hs3
    clear hE hW3 hs3 hE3
    refine wp_region_L (fun w' => w'.cell? ⟨D, 0, none⟩ = some (.pointer (some ⟨pb, 0, none⟩)) ∧ w'.cell? ⟨pb, 0, none⟩ = some (.int .u64 id) ∧ w'.cell? ⟨pb, 1, none⟩ = some (.string s) ∧ w'.cell? ⟨pb, 2, none⟩ = some (.string to)) 24 25 (by kernel_rfl) (by kernel_rfl) ?_
    refine wpU_take (i := 0) (v := ?_) rfl (by kernel_rfl) (by kernel_rfl) (by kernel_rfl) (by kernel_rfl) (fun _ _ _ h => h) (by rfl) ?_ HS3.out ?_
    rotate_left
    · (intro wS hwS; (try dsimp only at hwS); go_simp; try with_reducible rfl)
    simp only [Act.put, List.getElem_toArray, List.getElem_cons_zero, List.getElem_cons_succ, List.setIfInBounds_toArray, List.set_cons_zero, List.set_cons_succ]
    refine wpU_take (i := 1) (v := ?_) rfl (by kernel_rfl) (by kernel_rfl) (by kernel_rfl) (by kernel_rfl) (fun _ _ _ h => h) (by rfl) ?_ HS3.out ?_
    rotate_left
    · (intro wS hwS; (try dsimp only at hwS); go_simp; try with_reducible rfl)
    simp only [Act.put, List.getElem_toArray, List.getElem_cons_zero, List.getElem_cons_succ, List.setIfInBounds_toArray, List.set_cons_zero, List.set_cons_succ]
    refine wpU_take (i := 2) (v := ?_) rfl (by kernel_rfl) (by kernel_rfl) (by kernel_rfl) (by kernel_rfl) (fun _ _ _ h => h) (by rfl) ?_ HS3.out ?_
    rotate_left
    · (intro wS hwS; (try dsimp only at hwS); go_simp; try with_reducible rfl)
    simp only [Act.put, List.getElem_toArray, List.getElem_cons_zero, List.getElem_cons_succ, List.setIfInBounds_toArray, List.set_cons_zero, List.set_cons_succ]
    refine wpU_take (i := 3) (v := ?_) rfl (by kernel_rfl) (by kernel_rfl) (by kernel_rfl) (by kernel_rfl) (fun _ _ _ h => h) (by rfl) ?_ HS3.out ?_
    rotate_left
    · (intro wS hwS; (try dsimp only at hwS); go_simp; try with_reducible rfl)
    simp only [Act.put, List.getElem_toArray, List.getElem_cons_zero, List.getElem_cons_succ, List.setIfInBounds_toArray, List.set_cons_zero, List.set_cons_succ]
    refine wpU_take (i := 4) (v := ?_) rfl (by kernel_rfl) (by kernel_rfl) (by kernel_rfl) (by kernel_rfl) (fun _ _ _ h => h) (by rfl) ?_ HS3.out ?_
    rotate_left
    · (intro wS hwS; (try dsimp only at hwS); go_simp; try with_reducible rfl)
    simp only [Act.put, List.getElem_toArray, List.getElem_cons_zero, List.getElem_cons_succ, List.setIfInBounds_toArray, List.set_cons_zero, List.set_cons_succ]
    refine wpU_take (i := 5) (v := ?_) rfl (by kernel_rfl) (by kernel_rfl) (by kernel_rfl) (by kernel_rfl) (fun _ _ _ h => h) (by rfl) ?_ HS3.out ?_
    rotate_left
    · (intro wS hwS; (try dsimp only at hwS); go_simp; try with_reducible rfl)
    simp only [Act.put, List.getElem_toArray, List.getElem_cons_zero, List.getElem_cons_succ, List.setIfInBounds_toArray, List.set_cons_zero, List.set_cons_succ]
    refine wpU_take (i := 6) (v := ?_) rfl (by kernel_rfl) (by kernel_rfl) (by kernel_rfl) (by kernel_rfl) (fun _ _ _ h => h) (by rfl) ?_ HS3.out ?_
    rotate_left
    · (intro wS hwS; (try dsimp only at hwS); go_simp; try with_reducible rfl)
    simp only [Act.put, List.getElem_toArray, List.getElem_cons_zero, List.getElem_cons_succ, List.setIfInBounds_toArray, List.set_cons_zero, List.set_cons_succ]
    refine wpU_take (i := 7) (v := ?_) rfl (by kernel_rfl) (by kernel_rfl) (by kernel_rfl) (by kernel_rfl) (fun _ _ _ h => h) (by rfl) ?_ HS3.out ?_
    rotate_left
    · (intro wS hwS; (try dsimp only at hwS); go_simp; try with_reducible rfl)
    simp only [Act.put, List.getElem_toArray, List.getElem_cons_zero, List.getElem_cons_succ, List.setIfInBounds_toArray, List.set_cons_zero, List.set_cons_succ]
    refine wpU_take (i := 8) (v := ?_) rfl (by kernel_rfl) (by kernel_rfl) (by kernel_rfl) (by kernel_rfl) (fun _ _ _ h => h) (by rfl) ?_ HS3.out ?_
    rotate_left
    · (intro wS hwS; (try dsimp only at hwS); go_simp; try with_reducible rfl)
    simp only [Act.put, List.getElem_toArray, List.getElem_cons_zero, List.getElem_cons_succ, List.setIfInBounds_toArray, List.set_cons_zero, List.set_cons_succ]
    refine wpU_take (i := 9) (v := ?_) rfl (by kernel_rfl) (by kernel_rfl) (by kernel_rfl) (by kernel_rfl) (fun _ _ _ h => h) (by rfl) ?_ HS3.out ?_
    rotate_left
    · (intro wS hwS; (try dsimp only at hwS); go_simp; try with_reducible rfl)
    simp only [Act.put, List.getElem_toArray, List.getElem_cons_zero, List.getElem_cons_succ, List.setIfInBounds_toArray, List.set_cons_zero, List.set_cons_succ]
    refine wpU_take (i := 10) (v := ?_) rfl (by kernel_rfl) (by kernel_rfl) (by kernel_rfl) (by kernel_rfl) (fun _ _ _ h => h) (by rfl) ?_ HS3.out ?_
    rotate_left
    · (intro wS hwS; (try dsimp only at hwS); go_simp; try with_reducible rfl)
    simp only [Act.put, List.getElem_toArray, List.getElem_cons_zero, List.getElem_cons_succ, List.setIfInBounds_toArray, List.set_cons_zero, List.set_cons_succ]
    refine wpU_take (i := 11) (v := ?_) rfl (by kernel_rfl) (by kernel_rfl) (by kernel_rfl) (by kernel_rfl) (fun _ _ _ h => h) (by rfl) ?_ HS3.out ?_
    rotate_left
    · (intro wS hwS; (try dsimp only at hwS); go_simp; try with_reducible rfl)
    simp only [Act.put, List.getElem_toArray, List.getElem_cons_zero, List.getElem_cons_succ, List.setIfInBounds_toArray, List.set_cons_zero, List.set_cons_succ]
    refine wpU_take (i := 12) (v := ?_) rfl (by kernel_rfl) (by kernel_rfl) (by kernel_rfl) (by kernel_rfl) (fun _ _ _ h => h) (by rfl) ?_ HS3.out ?_
    rotate_left
    · (intro wS hwS; (try dsimp only at hwS); go_simp; try with_reducible rfl)
    simp only [Act.put, List.getElem_toArray, List.getElem_cons_zero, List.getElem_cons_succ, List.setIfInBounds_toArray, List.set_cons_zero, List.set_cons_succ]
    refine wpU_take (i := 13) (v := ?_) rfl (by kernel_rfl) (by kernel_rfl) (by kernel_rfl) (by kernel_rfl) (fun _ _ _ h => h) (by rfl) ?_ HS3.out ?_
    rotate_left
    · (intro wS hwS; (try dsimp only at hwS); go_simp; try with_reducible rfl)
    simp only [Act.put, List.getElem_toArray, List.getElem_cons_zero, List.getElem_cons_succ, List.setIfInBounds_toArray, List.set_cons_zero, List.set_cons_succ]
    refine wpU_take (i := 14) (v := ?_) rfl (by kernel_rfl) (by kernel_rfl) (by kernel_rfl) (by kernel_rfl) (fun _ _ _ h => h) (by rfl) ?_ HS3.out ?_
    rotate_left
    · (intro wS hwS; (try dsimp only at hwS); go_simp; try with_reducible rfl)
    simp only [Act.put, List.getElem_toArray, List.getElem_cons_zero, List.getElem_cons_succ, List.setIfInBounds_toArray, List.set_cons_zero, List.set_cons_succ]
    refine wpU_take (i := 15) (v := ?_) rfl (by kernel_rfl) (by kernel_rfl) (by kernel_rfl) (by kernel_rfl) (fun _ _ _ h => h) (by rfl) ?_ HS3.out ?_
    rotate_left
    · (intro wS hwS; (try dsimp only at hwS); go_simp; try with_reducible rfl)
    simp only [Act.put, List.getElem_toArray, List.getElem_cons_zero, List.getElem_cons_succ, List.setIfInBounds_toArray, List.set_cons_zero, List.set_cons_succ]
    refine wpU_take (i := 16) (v := ?_) rfl (by kernel_rfl) (by kernel_rfl) (by kernel_rfl) (by kernel_rfl) (fun _ _ _ h => h) (by rfl) ?_ HS3.out ?_
    rotate_left
    · (intro wS hwS; (try dsimp only at hwS); go_simp; try with_reducible rfl)
    simp only [Act.put, List.getElem_toArray, List.getElem_cons_zero, List.getElem_cons_succ, List.setIfInBounds_toArray, List.set_cons_zero, List.set_cons_succ]
    refine wpU_take (i := 17) (v := ?_) rfl (by kernel_rfl) (by kernel_rfl) (by kernel_rfl) (by kernel_rfl) (fun _ _ _ h => h) (by rfl) ?_ HS3.out ?_
    rotate_left
    · (intro wS hwS; (try dsimp only at hwS); go_simp; try with_reducible rfl)
    simp only [Act.put, List.getElem_toArray, List.getElem_cons_zero, List.getElem_cons_succ, List.setIfInBounds_toArray, List.set_cons_zero, List.set_cons_succ]
    refine wpU_take (i := 18) (v := ?_) rfl (by kernel_rfl) (by kernel_rfl) (by kernel_rfl) (by kernel_rfl) (fun _ _ _ h => h) (by rfl) ?_ HS3.out ?_
    rotate_left
    · (intro wS hwS; (try dsimp only at hwS); go_simp; try with_reducible rfl)
    simp only [Act.put, List.getElem_toArray, List.getElem_cons_zero, List.getElem_cons_succ, List.setIfInBounds_toArray, List.set_cons_zero, List.set_cons_succ]
    refine wpU_take (i := 19) (v := ?_) rfl (by kernel_rfl) (by kernel_rfl) (by kernel_rfl) (by kernel_rfl) (fun _ _ _ h => h) (by rfl) ?_ HS3.out ?_
    rotate_left
    · (intro wS hwS; (try dsimp only at hwS); go_simp; try with_reducible rfl)
    simp only [Act.put, List.getElem_toArray, List.getElem_cons_zero, List.getElem_cons_succ, List.setIfInBounds_toArray, List.set_cons_zero, List.set_cons_succ]
    refine wpU_take (i := 20) (v := ?_) rfl (by kernel_rfl) (by kernel_rfl) (by kernel_rfl) (by kernel_rfl) (fun _ _ _ h => h) (by rfl) ?_ HS3.out ?_
    rotate_left
    · (intro wS hwS; (try dsimp only at hwS); go_simp; try with_reducible rfl)
    simp only [Act.put, List.getElem_toArray, List.getElem_cons_zero, List.getElem_cons_succ, List.setIfInBounds_toArray, List.set_cons_zero, List.set_cons_succ]
    refine wpU_take (i := 21) (v := ?_) rfl (by kernel_rfl) (by kernel_rfl) (by kernel_rfl) (by kernel_rfl) (fun _ _ _ h => h) (by rfl) ?_ HS3.out ?_
    rotate_left
    · (intro wS hwS; (try dsimp only at hwS); go_simp; try with_reducible rfl)
    simp only [Act.put, List.getElem_toArray, List.getElem_cons_zero, List.getElem_cons_succ, List.setIfInBounds_toArray, List.set_cons_zero, List.set_cons_succ]
    refine wpL_one (i := 22) (by kernel_rfl) rfl (fun K hK => ?_)
    simp only [List.getElem_toArray, List.getElem_cons_zero, List.getElem_cons_succ]
    go_simp
    rw [HW3.out, HE.out]
    refine hK.out _ _ (fun _ => HS3'.out) ?_
    clear hK K
    try simp only [Act.put, List.getElem_toArray, List.getElem_cons_zero, List.getElem_cons_succ, List.setIfInBounds_toArray, List.set_cons_zero, List.set_cons_succ]
    refine wpL_one (i := 23) (by kernel_rfl) rfl (fun K hK => ?_)
    simp only [List.getElem_toArray, List.getElem_cons_zero, List.getElem_cons_succ]
    go_simp
    refine HER.out.mono ?_
    rintro _ w5 ⟨rfl, hb5⟩
    have HS5 : Hid ((fun w' : World => w'.cell? ⟨D, 0, none⟩ = some (.pointer (some ⟨pb, 0, none⟩)) ∧ w'.cell? ⟨pb, 0, none⟩ = some (.int .u64 id) ∧ w'.cell? ⟨pb, 1, none⟩ = some (.string s) ∧ w'.cell? ⟨pb, 2, none⟩ = some (.string to)) w5) := by
      have hs5 := HT3.out.trans (Stay.of_below hb5)
      have y1 := hs5.at_ HPB.out.1 (fun e => e)
      have y2 := hs5.at_ HPB.out.2.1 (fun e => e)
      exact ⟨cell_in y2 (o := 0) rfl, cell_in y1 (o := 0) rfl, cell_in y1 (o := 1) rfl, cell_in y1 (o := 2) rfl⟩
    have HB5 : Hid (Stay (fun _ => False) w2 w5) := HT3.out.trans (Stay.of_below hb5)
    refine hK.out _ _ (fun _ => HS5.out) ?_
    clear hK K hb5
    try simp only [Act.put, List.getElem_toArray, List.getElem_cons_zero, List.getElem_cons_succ, List.setIfInBounds_toArray, List.set_cons_zero, List.set_cons_succ]
    refine wpL_one (i := 24) (by kernel_rfl) rfl (fun K hK => ?_)
    simp only [List.getElem_toArray, List.getElem_cons_zero, List.getElem_cons_succ]
    go_simp
    refine hK.out _ _ (fun h => absurd rfl h) ?_
    clear hK K
    refine wpL_done (by kernel_rfl) ?_ _
    go_wp2
    go_ret
    obtain ⟨⟨v', r1, r2⟩, r3⟩ := HPO.out
    refine ⟨⟨v', r1.stay HB5.out (Nat.le_trans hB r3.size) (fun _ _ e => e) (fun e => e) (fun e => e) (fun e => e) (fun _ _ e => e), r2⟩, r3.trans' HB5.out (fun _ _ (e : False) => e.elim), .inr ⟨HBB.out, _, rfl⟩⟩
end Go.Proofs.YbulkcoecFmt
