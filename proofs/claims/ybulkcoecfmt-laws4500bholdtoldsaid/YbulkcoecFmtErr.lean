import Derived.Test.YbulkcoecFmtFacts
import Derived.WalkKit
import Derived.WalkSpells
namespace Go.Proofs.YbulkcoecFmt
open Go.RowKit Go.Extern.Stop Go.Stop Go.Extern
set_option linter.unusedVariables false
set_option linter.unusedSimpArgs false
attribute [local go_sem] Ybaf.call55 Ybaf.guard Ybaf.fmtH Ybaf.fmtHr Ybaf.act9_113w Ybaf.op9_113w Ybaf.act26_100w Ybaf.op26_100w Ybaf.isError118 Ybaf.act118_119w Ybaf.ptr118 Ybaf.elem118 Ybaf.ptr136 Ybaf.elem136 Ybaf.isError136

set_option maxHeartbeats 400000 in
/-- errors.New. -/
theorem new_any (s : ByteArray) (w : World) :
    Calls Ybaf.prog 23 #[.string s] w fun e w' => e = .returned (.iface 118 (.pointer (some ⟨w.heap.size, 0, none⟩))) ∧ w' = w.alloc (.cells #[.string s] 120) := by
  go_enter Ybaf.func23, Ybaf.ntmps23
  go_wp2
  go_ret
  exact ⟨rfl, rfl⟩

set_option maxHeartbeats 1600000 in
/-- fmt.Errorf at hand's format. -/
theorem errorf_hand (F : Interp) (id : Int) (s1 s2 se : ByteArray) (a : Addr) (b : Nat) (w : World) (hF : F.answers w.tape)
    (c0 : w.cell? ⟨b, 0, none⟩ = some (.iface 26 (.int .u64 id))) (c1 : w.cell? ⟨b, 1, none⟩ = some (.iface 9 (.string s1))) (c2 : w.cell? ⟨b, 2, none⟩ = some (.iface 9 (.string s2))) (c3 : w.cell? ⟨b, 3, none⟩ = some (.iface 118 (.pointer (some a)))) (hs : w.cell? a = some (.string se)) :
    Calls Ybaf.prog 31 #[.string ⟨#[110, 101, 116, 119, 111, 114, 107, 58, 32, 99, 111, 112, 121, 32, 37, 100, 32, 102, 114, 111, 109, 32, 37, 113, 32, 116, 111, 32, 37, 113, 58, 32, 37, 119]⟩, .slice (some ⟨b, 0, none⟩) 4 4] w fun e w' => e = .returned (.iface 136 (.pointer (some ⟨w.heap.size, 0, none⟩))) ∧ Below w.heap.size w w' := by
  have hF' := answers_open hF
  obtain ⟨sh, hsh⟩ := Ybaf.opPlain118_119w
  have hop := hsh "fmt.errorf" a se w hs
  clear hsh
  go_enter Ybaf.func31, Ybaf.ntmps31
  go_wp2
  apply rows_value Ybaf.nextTurns
  case hr =>
    go_simp
    exact ⟨rfl, rfl⟩
  case h =>
    go_wp2
    go_ret
    exact ⟨rfl, ((Below.refl _ w).alloc (Nat.le_refl _) _).drew⟩
end Go.Proofs.YbulkcoecFmt
