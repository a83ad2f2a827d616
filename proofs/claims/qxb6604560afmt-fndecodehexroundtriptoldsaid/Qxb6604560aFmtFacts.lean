/-
  Closed facts of this dump for the walk over fmt's stopped fronts.
-/
import Derived.Test.Qxb6604560aFmtProg
import Derived.Stop.CallBack
import Derived.Stop.IfaceNil
import GoSem.ClaimData
namespace Go.Proofs.Qxb6604560aFmt
open Go.Extern.Stop Go.Stop Go.Extern

theorem call28 (args : Array Value) (w : World) : (callFunc 28 args).run Tryf.prog w = (FmtCalls.errorf #[9, 53] #[26] args).run Tryf.prog w :=
  run_callFunc_next Tryf.func28 (by kernel_rfl) (by kernel_rfl) (by kernel_rfl) args w
theorem call59 (args : Array Value) (w : World) : (callFunc 59 args).run Tryf.prog w = ((FmtStop.sprintf #[9, 53] #[9] args).run Tryf.prog w).andThen fun v w' => .ok (.value v) w' :=
  run_callFunc_extern Tryf.func59 (by kernel_rfl) (by kernel_rfl) (by kernel_rfl) (by kernel_rfl) args w
theorem guardT (name : String) (w : World) : (FmtStop.guard name).run Tryf.prog w = .ok () w := by kernel_rfl
theorem nextTurns : Extern.next FmtCalls.turnsRow = some (FmtCalls.begun #[] #[]) := by kernel_rfl
theorem nextReturned : Extern.next FmtCalls.returnedRow = some (FmtCalls.returned #[] #[]) := by kernel_rfl

-- the length's complaint
theorem fmtA : FmtStop.printed? ⟨#[37, 115, 32, 104, 97, 115, 32, 37, 100, 32, 98, 121, 116, 101, 115, 44, 32, 119, 97, 110, 116, 32, 37, 100, 32, 104, 101, 120, 97, 100, 101, 99, 105, 109, 97, 108, 32, 100, 105, 103, 105, 116, 115]⟩ 3 = some [(0, 115, false), (1, 100, false), (2, 100, false)] := by kernel_rfl
theorem fmtAr (w : World) : (FmtDoors.printed ⟨#[37, 115, 32, 104, 97, 115, 32, 37, 100, 32, 98, 121, 116, 101, 115, 44, 32, 119, 97, 110, 116, 32, 37, 100, 32, 104, 101, 120, 97, 100, 101, 99, 105, 109, 97, 108, 32, 100, 105, 103, 105, 116, 115]⟩ 3).run Tryf.prog w = .ok [(0, 115, false), (1, 100, false), (2, 100, false)] w := by kernel_rfl
-- the reading's complaint
theorem fmtB : FmtStop.printed? ⟨#[114, 101, 97, 100, 105, 110, 103, 32, 37, 115, 58, 32, 37, 119]⟩ 2 = some [(0, 115, false), (1, 119, false)] := by kernel_rfl
theorem fmtBr (w : World) : (FmtDoors.printed ⟨#[114, 101, 97, 100, 105, 110, 103, 32, 37, 115, 58, 32, 37, 119]⟩ 2).run Tryf.prog w = .ok [(0, 115, false), (1, 119, false)] w := by kernel_rfl
-- the invalid byte's text
theorem fmtC : FmtStop.printed? ⟨#[101, 110, 99, 111, 100, 105, 110, 103, 47, 104, 101, 120, 58, 32, 105, 110, 118, 97, 108, 105, 100, 32, 98, 121, 116, 101, 58, 32, 37, 35, 85]⟩ 1 = some [(0, 85, true)] := by kernel_rfl
theorem fmtCr (w : World) : (FmtDoors.printed ⟨#[101, 110, 99, 111, 100, 105, 110, 103, 47, 104, 101, 120, 58, 32, 105, 110, 118, 97, 108, 105, 100, 32, 98, 121, 116, 101, 58, 32, 37, 35, 85]⟩ 1).run Tryf.prog w = .ok [(0, 85, true)] w := by kernel_rfl

def shape3 : List UInt8 := [5, 3, 0, 0, 0, 0, 0, 0, 0, 105, 110, 116]
def shape9 : List UInt8 := [12, 6, 0, 0, 0, 0, 0, 0, 0, 115, 116, 114, 105, 110, 103]
def shape21 : List UInt8 := [4, 5, 0, 0, 0, 0, 0, 0, 0, 105, 110, 116, 51, 50]
theorem act3_100w (name : String) (x : Value) (w : World) : (FmtCalls.act name true 100 false (.iface 3 x)).run Tryf.prog w = .ok (.closed true) w := by kernel_rfl
theorem op3_100w (name : String) (x : Int) (w : World) : (FmtStop.operand name true 100 false (.iface 3 (.int .i64 x))).run Tryf.prog w = .ok (shape3, Go.Extern.Stop.digits 8 (x % 2 ^ 64).toNat) w := by kernel_rfl
theorem act9_115w (name : String) (x : Value) (w : World) : (FmtCalls.act name true 115 false (.iface 9 x)).run Tryf.prog w = .ok (.closed true) w := by kernel_rfl
theorem op9_115w (name : String) (x : ByteArray) (w : World) : (FmtStop.operand name true 115 false (.iface 9 (.string x))).run Tryf.prog w = .ok (shape9, FmtStop.pack x.data.toList) w := by kernel_rfl
theorem op21_85s (name : String) (x : Int) (w : World) : (FmtStop.operand name false 85 true (.iface 21 (.int .i32 x))).run Tryf.prog w = .ok (shape21, Go.Extern.Stop.digits 8 (x % 2 ^ 64).toNat) w := by kernel_rfl
theorem act56_119w (name : String) (x : Value) (w : World) : (FmtCalls.act name true 119 false (.iface 56 x)).run Tryf.prog w = .ok (.call true) w := by kernel_rfl
theorem isError56 (w : World) : (FmtDoors.textMethod 56 "Error").run Tryf.prog w = .ok true w := by kernel_rfl
theorem invokeError56 (x : Value) (w : World) : (invoke (.fn (.method "Error") #[]) #[.iface 56 x]).run Tryf.prog w = .ok (.enter 58 #[x]) w := by kernel_rfl
theorem str56 (w : World) : (typeStr 56).run Tryf.prog w = .ok "hex.InvalidByteError" w := by kernel_rfl
theorem ptr59 (w : World) : (FmtStop.ptrTo "errors.errorString").run Tryf.prog w = .ok 59 w := by kernel_rfl
theorem elem59 (w : World) : (elemOf 59).run Tryf.prog w = .ok 61 w := by kernel_rfl
theorem isError59 (w : World) : (FmtDoors.textMethod 59 "Error").run Tryf.prog w = .ok true w := by kernel_rfl
theorem ptr55 (w : World) : (FmtStop.ptrTo "fmt.wrapError").run Tryf.prog w = .ok 55 w := by kernel_rfl
theorem elem55 (w : World) : (elemOf 55).run Tryf.prog w = .ok 93 w := by kernel_rfl
theorem isError55 (w : World) : (FmtDoors.textMethod 55 "Error").run Tryf.prog w = .ok true w := by kernel_rfl

end Go.Proofs.Qxb6604560aFmt
