import Derived.Test.YbulkcoecFmtRun
import Derived.WideMake
namespace Go.Proofs.YbulkcoecFmt
open Go.RowKit Go.Deep
set_option linter.unusedVariables false
set_option linter.unusedSimpArgs false

/-- The link 0 to 1. -/
def key01 : Value := .agg #[.int .i64 0, .int .i64 1]

theorem check01 (b : Bool) (W : World) : (Instr.checkKey b 10000 68 (.agg #[.int .i64 0, .int .i64 1])).run Ybaf.prog W = .ok () W := by cases b <;> kernel_rfl
theorem find0 (W : World) : (Instr.findKey 68 (.agg #[.int .i64 0, .int .i64 1]) []).run Ybaf.prog W = .ok none W := by kernel_rfl
theorem find1 (v : Value) (b : Nat) (W : World) : (Instr.findKey 68 (.agg #[.int .i64 0, .int .i64 1]) [⟨.agg #[.int .i64 0, .int .i64 1], v, b⟩]).run Ybaf.prog W = .ok (some (0, v)) W := by kernel_rfl

theorem look_empty (r c : Nat) (W : World) (h : W.heap[r]? = some (.map #[] c)) : (Instr.lookup 50 (.map (some r)) (.agg #[.int .i64 0, .int .i64 1]) true).run Ybaf.prog W = .ok (.tuple #[.pointer none, .bool false]) W := by
  simp [Instr.lookup, Ybaf.runUnderlying50, MapKept.run_getObj_map h, check01, find0, Ybaf.zeroValue69, Result.andThen]

theorem look_one (r c b : Nat) (v : Value) (W : World) (h : W.heap[r]? = some (.map #[⟨.agg #[.int .i64 0, .int .i64 1], v, b⟩] c)) : (Instr.lookup 50 (.map (some r)) (.agg #[.int .i64 0, .int .i64 1]) false).run Ybaf.prog W = .ok v W := by
  simp [Instr.lookup, Ybaf.runUnderlying50, MapKept.run_getObj_map h, check01, find1, Result.andThen]

theorem upd_empty (r c : Nat) (v : Value) (W : World) (h : W.heap[r]? = some (.map #[] c)) : (Instr.mapUpdate 50 (.map (some r)) (.agg #[.int .i64 0, .int .i64 1]) v).run Ybaf.prog W = .ok () { W with heap := W.heap.setIfInBounds r (.map #[⟨.agg #[.int .i64 0, .int .i64 1], v, c⟩] (c + 1)) } := by
  simp [Instr.mapUpdate, Ybaf.runUnderlying50, MapKept.run_getObj_map h, check01, find0, MapKept.run_setObj_map _ h, Result.andThen]
end Go.Proofs.YbulkcoecFmt
