import Derived.Test.YbulkcoecFmtErr
namespace Go.Proofs.YbulkcoecFmt
open Go.RowKit Go.Extern.Stop Go.Stop Go.Extern
set_option linter.unusedVariables false
set_option linter.unusedSimpArgs false

/-- The format of handOver. -/
theorem Ybaf.fmtO : FmtStop.printed? ⟨#[110, 101, 116, 119, 111, 114, 107, 58, 32, 99, 111, 112, 121, 32, 37, 100, 32, 102, 114, 111, 109, 32, 37, 113, 32, 116, 111, 32, 37, 113, 58, 32, 37, 113, 32, 104, 97, 115, 32, 110, 111, 116, 32, 106, 111, 105, 110, 101, 100, 44, 32, 115, 111, 32, 116, 104, 101, 32, 99, 111, 112, 121, 32, 105, 115, 32, 104, 101, 108, 100]⟩ 4 = some [(0, 100, false), (1, 113, false), (2, 113, false), (3, 113, false)] := by kernel_rfl
theorem Ybaf.fmtOr (w : World) : (FmtDoors.printed ⟨#[110, 101, 116, 119, 111, 114, 107, 58, 32, 99, 111, 112, 121, 32, 37, 100, 32, 102, 114, 111, 109, 32, 37, 113, 32, 116, 111, 32, 37, 113, 58, 32, 37, 113, 32, 104, 97, 115, 32, 110, 111, 116, 32, 106, 111, 105, 110, 101, 100, 44, 32, 115, 111, 32, 116, 104, 101, 32, 99, 111, 112, 121, 32, 105, 115, 32, 104, 101, 108, 100]⟩ 4).run Ybaf.prog w = .ok [(0, 100, false), (1, 113, false), (2, 113, false), (3, 113, false)] w := by kernel_rfl

attribute [local go_sem] Ybaf.call55 Ybaf.guard Ybaf.fmtO Ybaf.fmtOr Ybaf.act9_113w Ybaf.op9_113w Ybaf.act26_100w Ybaf.op26_100w Ybaf.isError118 Ybaf.act118_119w Ybaf.ptr118 Ybaf.elem118 Ybaf.ptr136 Ybaf.elem136 Ybaf.isError136

set_option maxHeartbeats 1600000 in
/-- fmt.Errorf at handOver's format. -/
theorem errorf_over (F : Interp) (id : Int) (s1 s2 s3 : ByteArray) (b : Nat) (w : World) (hF : F.answers w.tape)
    (c0 : w.cell? ⟨b, 0, none⟩ = some (.iface 26 (.int .u64 id))) (c1 : w.cell? ⟨b, 1, none⟩ = some (.iface 9 (.string s1))) (c2 : w.cell? ⟨b, 2, none⟩ = some (.iface 9 (.string s2))) (c3 : w.cell? ⟨b, 3, none⟩ = some (.iface 9 (.string s3))) :
    Calls Ybaf.prog 31 #[.string ⟨#[110, 101, 116, 119, 111, 114, 107, 58, 32, 99, 111, 112, 121, 32, 37, 100, 32, 102, 114, 111, 109, 32, 37, 113, 32, 116, 111, 32, 37, 113, 58, 32, 37, 113, 32, 104, 97, 115, 32, 110, 111, 116, 32, 106, 111, 105, 110, 101, 100, 44, 32, 115, 111, 32, 116, 104, 101, 32, 99, 111, 112, 121, 32, 105, 115, 32, 104, 101, 108, 100]⟩, .slice (some ⟨b, 0, none⟩) 4 4] w fun e w' => e = .returned (.iface 118 (.pointer (some ⟨w.heap.size, 0, none⟩))) ∧ Below w.heap.size w w' := by
  have hF' := answers_open hF
  go_enter Ybaf.func31, Ybaf.ntmps31
  go_wp2
  apply rows_value Ybaf.nextTurns
  case hr =>
    go_simp
    exact ⟨rfl, rfl⟩
  case h =>
    go_wp2
    go_ret
    exact ⟨rfl, ((Below.refl _ w).alloc (Nat.le_refl _) _).drew⟩
end Go.Proofs.YbulkcoecFmt
