import Derived.Test.YbulkcoecFmtProg
import Derived.Stop.CallBack
import Derived.Stop.IfaceNil
import GoSem.ClaimData
import Derived.KernelRfl
namespace Go.Proofs
open Go.Extern.Stop Go.Stop Go.Extern
set_option linter.unusedVariables false
set_option linter.unusedSimpArgs false

theorem Ybaf.call55 (args : Array Value) (w : World) : (callFunc 55 args).run Ybaf.prog w = (FmtCalls.errorf #[9, 135] #[39] args).run Ybaf.prog w :=
  run_callFunc_next Ybaf.func55 (by kernel_rfl) (by kernel_rfl) (by kernel_rfl) args w
theorem Ybaf.guard (name : String) (w : World) : (FmtStop.guard name).run Ybaf.prog w = .ok () w := by kernel_rfl
theorem Ybaf.nextTurns : Extern.next FmtCalls.turnsRow = some (FmtCalls.begun #[] #[]) := by kernel_rfl
theorem Ybaf.nextReturned : Extern.next FmtCalls.returnedRow = some (FmtCalls.returned #[] #[]) := by kernel_rfl

/-- The format of hand. -/
theorem Ybaf.fmtH : FmtStop.printed? ⟨#[110, 101, 116, 119, 111, 114, 107, 58, 32, 99, 111, 112, 121, 32, 37, 100, 32, 102, 114, 111, 109, 32, 37, 113, 32, 116, 111, 32, 37, 113, 58, 32, 37, 119]⟩ 4 = some [(0, 100, false), (1, 113, false), (2, 113, false), (3, 119, false)] := by kernel_rfl
theorem Ybaf.fmtHr (w : World) : (FmtDoors.printed ⟨#[110, 101, 116, 119, 111, 114, 107, 58, 32, 99, 111, 112, 121, 32, 37, 100, 32, 102, 114, 111, 109, 32, 37, 113, 32, 116, 111, 32, 37, 113, 58, 32, 37, 119]⟩ 4).run Ybaf.prog w = .ok [(0, 100, false), (1, 113, false), (2, 113, false), (3, 119, false)] w := by kernel_rfl

-- strings
def Ybaf.shape9 : List UInt8 := [12, 6, 0, 0, 0, 0, 0, 0, 0, 115, 116, 114, 105, 110, 103]
theorem Ybaf.act9_113w (name : String) (x : Value) (w : World) : (FmtCalls.act name true 113 false (.iface 9 x)).run Ybaf.prog w = .ok (.closed true) w := by kernel_rfl
theorem Ybaf.op9_113w (name : String) (x : ByteArray) (w : World) : (FmtStop.operand name true 113 false (.iface 9 (.string x))).run Ybaf.prog w = .ok (Ybaf.shape9, FmtStop.pack x.data.toList) w := by kernel_rfl
-- uint64
def Ybaf.shape26 : List UInt8 := [9, 6, 0, 0, 0, 0, 0, 0, 0, 117, 105, 110, 116, 54, 52]
theorem Ybaf.act26_100w (name : String) (x : Value) (w : World) : (FmtCalls.act name true 100 false (.iface 26 x)).run Ybaf.prog w = .ok (.closed true) w := by kernel_rfl
theorem Ybaf.op26_100w (name : String) (x : Int) (w : World) : (FmtStop.operand name true 100 false (.iface 26 (.int .u64 x))).run Ybaf.prog w = .ok (Ybaf.shape26, Go.Extern.Stop.digits 8 (x % 2 ^ 64).toNat) w := by kernel_rfl
-- *errors.errorString
theorem Ybaf.isError118 (w : World) : (FmtDoors.textMethod 118 "Error").run Ybaf.prog w = .ok true w := by kernel_rfl
theorem Ybaf.act118_119w (name : String) (x : Value) (w : World) : (FmtCalls.act name true 119 false (.iface 118 x)).run Ybaf.prog w = .ok (.closed true) w := by kernel_rfl
theorem Ybaf.ptr118 (w : World) : (FmtStop.ptrTo "errors.errorString").run Ybaf.prog w = .ok 118 w := by kernel_rfl
theorem Ybaf.elem118 (w : World) : (elemOf 118).run Ybaf.prog w = .ok 120 w := by kernel_rfl
theorem Ybaf.opPlain118_119w : ∃ sh : List UInt8, ∀ (name : String) (a : Addr) (s : ByteArray) (w : World) (hc : w.cell? a = some (.string s)),
    (FmtStop.operand name true 119 false (.iface 118 (.pointer (some a)))).run Ybaf.prog w = .ok (sh, s.data.toList) w := by
  refine ⟨14 :: FmtStop.pack Ybaf.t118.str.toUTF8.data.toList, fun name a s w hc => ?_⟩
  have h1 : (typeStr 118).run Ybaf.prog w = .ok Ybaf.t118.str w := by kernel_rfl
  have d2 : Ybaf.t118.desc = .pointer 120 := rfl
  have d3 : Ybaf.t120.desc = .named "errors.errorString" 119 := rfl
  simp [FmtStop.operand, h1, d2, d3, run_load, hc]
-- *fmt.wrapError
theorem Ybaf.ptr136 (w : World) : (FmtStop.ptrTo "fmt.wrapError").run Ybaf.prog w = .ok 136 w := by kernel_rfl
theorem Ybaf.elem136 (w : World) : (elemOf 136).run Ybaf.prog w = .ok 244 w := by kernel_rfl
theorem Ybaf.isError136 (w : World) : (FmtDoors.textMethod 136 "Error").run Ybaf.prog w = .ok true w := by kernel_rfl
end Go.Proofs
