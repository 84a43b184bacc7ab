import Derived.Test.YbulkcoecFmtLocks
import Derived.Conc.MuLone
import Derived.WalkKit
import Derived.WalkSpells
namespace Go.Proofs.YbulkcoecFmt
open Go.RowKit Go.MuLone
set_option linter.unusedVariables false
set_option linter.unusedSimpArgs false

set_option maxHeartbeats 800000 in
/-- The lock taken by a deferred call. -/
theorem lock_deferred (a : Addr) (u : FrameMode) (w : World) (hc : w.cell? a = some (.int .i32 0)) (hz : w.frozen? a = false) :
    CallsD Ybaf.prog 16 #[.pointer (some a)] u w fun e u' w' => u' = u ∧ (e = .returned (.tuple #[]) ∧ w' = w.setCell a (.int .i32 1)) := by
  go_enter_d Ybaf.func16, Ybaf.ntmps16
  go_wp2_with (go_at_call 37; refine (ilock_free Ybaf.muLib a _ hc hz).mono ?_; rintro e w' ⟨rfl, rfl⟩)
  go_end0
  exact ⟨rfl, rfl⟩

theorem conv_any {a : Addr} {v : Value} {w : World} (hc : w.cell? a = some v) : (convert 137 141 (.pointer (some a))).run Ybaf.prog w = .ok (.pointer (some a)) w := by
  obtain ⟨e, n, hsh, hlt, hsp⟩ := World.shape?_of_cell? hc
  have hge : ¬ (n ≤ a.off) := by omega
  have h1 : (convert 137 141 (.pointer (some a))).run Ybaf.prog w = (do
      let s ← Conv.seenAt a
      let c ← cellsIn s.block
      let z ← sizeOf 59
      if z = 0 || (match c with | some cells => s.off ≥ cells && s.spot.isNone | none => false) then (do
        let r ← newObj (.view s 59)
        pure (.pointer (some ⟨r, 0, none⟩))) else
      pure (.pointer (some s)) : Sem Value).run Ybaf.prog w := by kernel_rfl
  rw [h1]
  simp [Conv.seenAt, viewAt, cellsIn, Ybaf.sizeOf59, hsh, hge, Result.andThen]

set_option maxRecDepth 100000 in
set_option maxHeartbeats 1600000 in
theorem itry_free (a : Addr) (w : World) (hc : w.cell? a = some (.int .i32 0)) (hz : w.frozen? a = false) :
    Calls Ybaf.prog 39 #[.pointer (some a)] w fun e w' => e = .returned (.bool true) ∧ w' = w.setCell a (.int .i32 1) := by
  have hd := disable Ybaf.muLib
  have he := enable Ybaf.muLib
  have ha := acquire Ybaf.muLib
  have hcas := run_call_cas_hit (P := Ybaf.prog) Ybaf.func58 (by kernel_rfl) (by kernel_rfl) (by kernel_rfl) .i32 (by kernel_rfl) (y := 1) hc hz
  have hc' : (w.setCell a (.int .i32 1)).cell? a = some (.int .i32 1) := by simp [go_sem, hc]
  have hcv := conv_any hc'
  have hb1 : bits .and .i32 0 5 = 0 := by kernel_rfl
  have hb2 : bits .or .i32 0 1 = 1 := by kernel_rfl
  go_enter Ybaf.func39, Ybaf.ntmps39
  go_wp2
  go_ret
  exact ⟨rfl, rfl⟩

set_option maxHeartbeats 800000 in
/-- TryLock at a free lock. -/
theorem try_free (a : Addr) (w : World) (hc : w.cell? a = some (.int .i32 0)) (hz : w.frozen? a = false) :
    Calls Ybaf.prog 18 #[.pointer (some a)] w fun e w' => e = .returned (.bool true) ∧ w' = w.setCell a (.int .i32 1) := by
  go_enter Ybaf.func18, Ybaf.ntmps18
  go_wp2_with (go_at_call 39; refine (itry_free a _ hc hz).mono ?_; rintro e w' ⟨rfl, rfl⟩)
  go_ret
  exact ⟨rfl, rfl⟩
end Go.Proofs.YbulkcoecFmt
