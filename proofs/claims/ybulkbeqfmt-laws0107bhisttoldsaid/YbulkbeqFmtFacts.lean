/-
  THE CLOSED FACTS FOR THE WALKS OVER fmt's STOPPED FRONTS AT THIS DUMP (after the guide's LevelsFmt.lean): each by the kernel's own evaluation.
-/
import Derived.Test.YbulkbeqFmtRows
import Derived.Stop.CallBack
import Derived.Stop.IfaceNil
import GoSem.ClaimData
namespace Go.Proofs.YbulkbeqFmt
open Go.Extern.Stop Go.Stop Go.Extern

theorem call13 (args : Array Value) (w : World) : (callFunc 13 args).run Ybaf.prog w = (FmtCalls.sprint 2 #[75] #[9] args).run Ybaf.prog w :=
  run_callFunc_next Ybaf.func13 (by kernel_rfl) (by kernel_rfl) (by kernel_rfl) args w
theorem call15 (args : Array Value) (w : World) : (callFunc 15 args).run Ybaf.prog w = ((FmtStop.sprintf #[9, 75] #[9] args).run Ybaf.prog w).andThen fun v w' => .ok (.value v) w' :=
  run_callFunc_extern Ybaf.func15 (by kernel_rfl) (by kernel_rfl) (by kernel_rfl) (by kernel_rfl) args w
theorem guard (name : String) (w : World) : (FmtStop.guard name).run Ybaf.prog w = .ok () w := by kernel_rfl
theorem nextTurns : Extern.next FmtCalls.turnsRow = some (FmtCalls.begun #[] #[]) := by kernel_rfl
theorem nextReturned : Extern.next FmtCalls.returnedRow = some (FmtCalls.returned #[] #[]) := by kernel_rfl

theorem fmt0 : FmtStop.printed? ⟨#[37, 100, 32, 37, 99, 32, 37, 115, 32, 37, 100]⟩ 4 = some [(0, 100, false), (1, 99, false), (2, 115, false), (3, 100, false)] := by kernel_rfl

def shape3 : List UInt8 := [5, 3, 0, 0, 0, 0, 0, 0, 0, 105, 110, 116]
def shape9 : List UInt8 := [12, 6, 0, 0, 0, 0, 0, 0, 0, 115, 116, 114, 105, 110, 103]
def shape2 : List UInt8 := FmtStop.intCode .i64 :: FmtStop.pack "int64".toUTF8.data.toList
def shape54 : List UInt8 := FmtStop.intCode .u8 :: FmtStop.pack "history.Kind".toUTF8.data.toList
theorem op3_100 (name : String) (x : Int) (w : World) : (FmtStop.operand name false 100 false (.iface 3 (.int .i64 x))).run Ybaf.prog w = .ok (shape3, Go.Extern.Stop.digits 8 (x % 2 ^ 64).toNat) w := by kernel_rfl
theorem op2_100 (name : String) (x : Int) (w : World) : (FmtStop.operand name false 100 false (.iface 2 (.int .i64 x))).run Ybaf.prog w = .ok (shape2, Go.Extern.Stop.digits 8 (x % 2 ^ 64).toNat) w := by kernel_rfl
theorem op54_99 (name : String) (x : Int) (w : World) : (FmtStop.operand name false 99 false (.iface 54 (.int .u8 x))).run Ybaf.prog w = .ok (shape54, Go.Extern.Stop.digits 8 (x % 2 ^ 64).toNat) w := by kernel_rfl
theorem op9_115 (name : String) (x : ByteArray) (w : World) : (FmtStop.operand name false 115 false (.iface 9 (.string x))).run Ybaf.prog w = .ok (shape9, FmtStop.pack x.data.toList) w := by kernel_rfl

theorem act63_118 (name : String) (x : Value) (w : World) : (FmtCalls.act name false 118 false (.iface 63 x)).run Ybaf.prog w = .ok (.call false) w := by kernel_rfl
theorem invokeString63 (x : Value) (w : World) : (invoke (.fn (.method "String") #[]) #[.iface 63 x]).run Ybaf.prog w = .ok (.enter 14 #[x]) w := by kernel_rfl
theorem typeStr63 (w : World) : (typeStr 63).run Ybaf.prog w = .ok "history.Op" w := by kernel_rfl

theorem method_write (n : Nat) (v : Value) (w : World) : (Go.method (n + 1) 44 v "Write").run Ybaf.prog w = .ok (37, v) w := by kernel_rfl
theorem ahead_write (n : Nat) (a : Addr) (w : World) : (Go.nilAhead (n + 1) 44 (.pointer (some a)) "Write").run Ybaf.prog w = .ok (some false) w := by kernel_rfl

end Go.Proofs.YbulkbeqFmt
