/-
  THE CLOSED FACTS FOR A WALK OVER fmt's STOPPED FRONT AT THIS PROGRAM (typed after the shape of the guide's worked facts): fmt.Sprintf over an int64 and an error of the make of errors.New.
-/
import Derived.Test.Qxb6612361aFmtRows
import Derived.Stop.CallBack
import Derived.Stop.IfaceNil
import GoSem.ClaimData
namespace Go.Proofs.Qxb6612361aFmt
open Go.Extern.Stop Go.Stop Go.Extern
theorem Tryf.call8 (args : Array Value) (w : World) : (callFunc 8 args).run Tryf.prog w = (FmtCalls.sprintf #[9, 51] #[9] args).run Tryf.prog w :=
  run_callFunc_next Tryf.func8 (by kernel_rfl) (by kernel_rfl) (by kernel_rfl) args w
theorem Tryf.guard (name : String) (w : World) : (FmtStop.guard name).run Tryf.prog w = .ok () w := by kernel_rfl
theorem Tryf.nextTurns : Extern.next FmtCalls.turnsRow = some (FmtCalls.begun #[] #[]) := by kernel_rfl
theorem Tryf.nextReturned : Extern.next FmtCalls.returnedRow = some (FmtCalls.returned #[] #[]) := by kernel_rfl
theorem Tryf.fmt0 : FmtStop.printed? ⟨#[118, 105, 101, 119, 32, 97, 116, 32, 37, 100, 58, 32, 37, 118]⟩ 2 = some [(0, 100, false), (1, 118, false)] := by kernel_rfl
theorem Tryf.fmt0r (w : World) : (FmtDoors.printed ⟨#[118, 105, 101, 119, 32, 97, 116, 32, 37, 100, 58, 32, 37, 118]⟩ 2).run Tryf.prog w = .ok [(0, 100, false), (1, 118, false)] w := by kernel_rfl
def Tryf.shape2 : List UInt8 := [5, 5, 0, 0, 0, 0, 0, 0, 0, 105, 110, 116, 54, 52]
theorem Tryf.act2_100 (name : String) (x : Value) (w : World) : (FmtCalls.act name false 100 false (.iface 2 x)).run Tryf.prog w = .ok (.closed false) w := by kernel_rfl
theorem Tryf.op2_100 (name : String) (x : Int) (w : World) : (FmtStop.operand name false 100 false (.iface 2 (.int .i64 x))).run Tryf.prog w = .ok (Tryf.shape2, Go.Extern.Stop.digits 8 (x % 2 ^ 64).toNat) w := by kernel_rfl
theorem Tryf.act32_118 (name : String) (x : Value) (w : World) : (FmtCalls.act name false 118 false (.iface 32 x)).run Tryf.prog w = .ok (.closed false) w := by kernel_rfl
/-- An error of errors.New's make AS AN OPERAND: its type's name, then its text out of memory. -/
def Tryf.plain32 : List UInt8 := 14 :: FmtStop.pack [42, 101, 114, 114, 111, 114, 115, 46, 101, 114, 114, 111, 114, 83, 116, 114, 105, 110, 103]
theorem Tryf.opPlain32_118 (name : String) (a : Addr) (s : ByteArray) (w : World) (hc : w.cell? a = some (.string s)) :
    (FmtStop.operand name false 118 false (.iface 32 (.pointer (some a)))).run Tryf.prog w = .ok (Tryf.plain32, s.data.toList) w := by
  have h1 : (typeStr 32).run Tryf.prog w = .ok Tryf.t32.str w := by kernel_rfl
  have d2 : Tryf.t32.desc = .pointer 34 := rfl
  have d3 : Tryf.t34.desc = .named "errors.errorString" 33 := rfl
  simp [FmtStop.operand, h1, d2, d3, run_load, hc, Tryf.plain32]
  rfl
end Go.Proofs.Qxb6612361aFmt
