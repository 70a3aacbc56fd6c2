/-
  Closed facts for a walk over fmt's stopped fronts at this dump (after the guide's HexbadFmt): what the two stops are asked at ParseID's two formats and at InvalidByteError's own.
-/
import Derived.Test.Qxb6002389aFmtRows
import Derived.Stop.CallBack
import Derived.Stop.IfaceNil
import GoSem.ClaimData
namespace Go.Proofs.Qxb6002389aFmt.ft
open Go.Extern.Stop Go.Stop Go.Extern

theorem call19 (args : Array Value) (w : World) : (callFunc 19 args).run Tryf.prog w = (FmtCalls.errorf #[9, 42] #[26] args).run Tryf.prog w :=
  run_callFunc_next Tryf.func19 (by kernel_rfl) (by kernel_rfl) (by kernel_rfl) args w
theorem call38 (args : Array Value) (w : World) : (callFunc 38 args).run Tryf.prog w = ((FmtStop.sprintf #[9, 42] #[9] args).run Tryf.prog w).andThen fun v w' => .ok (.value v) w' :=
  run_callFunc_extern Tryf.func38 (by kernel_rfl) (by kernel_rfl) (by kernel_rfl) (by kernel_rfl) args w
theorem guard (name : String) (w : World) : (FmtStop.guard name).run Tryf.prog w = .ok () w := by kernel_rfl
theorem nextTurns : Go.Extern.next FmtCalls.turnsRow = some (FmtCalls.begun #[] #[]) := by kernel_rfl
theorem nextReturned : Go.Extern.next FmtCalls.returnedRow = some (FmtCalls.returned #[] #[]) := by kernel_rfl

/-- "proofstore: ID is %d characters long, want %d hexadecimal characters" -/
def fmtA : ByteArray := { data := ([112, 114, 111, 111, 102, 115, 116, 111, 114, 101, 58, 32, 73, 68, 32, 105, 115, 32, 37, 100, 32, 99, 104, 97, 114, 97, 99, 116, 101, 114, 115, 32, 108, 111].append [110, 103, 44, 32, 119, 97, 110, 116, 32, 37, 100, 32, 104, 101, 120, 97, 100, 101, 99, 105, 109, 97, 108, 32, 99, 104, 97, 114, 97, 99, 116, 101, 114, 115]).toArray }
/-- "proofstore: invalid ID: %w" -/
def fmtB : ByteArray := ⟨#[112, 114, 111, 111, 102, 115, 116, 111, 114, 101, 58, 32, 105, 110, 118, 97, 108, 105, 100, 32, 73, 68, 58, 32, 37, 119]⟩
/-- "encoding/hex: invalid byte: %#U" -/
def fmtC : ByteArray := ⟨#[101, 110, 99, 111, 100, 105, 110, 103, 47, 104, 101, 120, 58, 32, 105, 110, 118, 97, 108, 105, 100, 32, 98, 121, 116, 101, 58, 32, 37, 35, 85]⟩
theorem fA : FmtStop.printed? fmtA 2 = some [(0, 100, false), (1, 100, false)] := by kernel_rfl
theorem fAr (w : World) : (FmtDoors.printed fmtA 2).run Tryf.prog w = .ok [(0, 100, false), (1, 100, false)] w := by kernel_rfl
theorem fB : FmtStop.printed? fmtB 1 = some [(0, 119, false)] := by kernel_rfl
theorem fBr (w : World) : (FmtDoors.printed fmtB 1).run Tryf.prog w = .ok [(0, 119, false)] w := by kernel_rfl
theorem fC : FmtStop.printed? fmtC 1 = some [(0, 85, true)] := by kernel_rfl
theorem fCr (w : World) : (FmtDoors.printed fmtC 1).run Tryf.prog w = .ok [(0, 85, true)] w := by kernel_rfl

def shape3 : List UInt8 := [5, 3, 0, 0, 0, 0, 0, 0, 0, 105, 110, 116]
theorem act3_100w (name : String) (x : Value) (w : World) : (FmtCalls.act name true 100 false (.iface 3 x)).run Tryf.prog w = .ok (.closed true) w := by kernel_rfl
theorem op3_100w (name : String) (x : Int) (w : World) : (FmtStop.operand name true 100 false (.iface 3 (.int .i64 x))).run Tryf.prog w = .ok (shape3, Go.Extern.Stop.digits 8 (x % 2 ^ 64).toNat) w := by kernel_rfl
def shape21 : List UInt8 := [4, 5, 0, 0, 0, 0, 0, 0, 0, 105, 110, 116, 51, 50]
theorem act21_85s (name : String) (x : Value) (w : World) : (FmtCalls.act name false 85 true (.iface 21 x)).run Tryf.prog w = .ok (.closed false) w := by kernel_rfl
theorem op21_85s (name : String) (x : Int) (w : World) : (FmtStop.operand name false 85 true (.iface 21 (.int .i32 x))).run Tryf.prog w = .ok (shape21, Go.Extern.Stop.digits 8 (x % 2 ^ 64).toNat) w := by kernel_rfl
theorem act45_119w (name : String) (x : Value) (w : World) : (FmtCalls.act name true 119 false (.iface 45 x)).run Tryf.prog w = .ok (.call true) w := by kernel_rfl
theorem isError45 (w : World) : (FmtDoors.textMethod 45 "Error").run Tryf.prog w = .ok true w := by kernel_rfl
theorem str45 (w : World) : (typeStr 45).run Tryf.prog w = .ok "hex.InvalidByteError" w := by kernel_rfl
theorem invokeError45 (x : Value) (w : World) : (invoke (.fn (.method "Error") #[]) #[.iface 45 x]).run Tryf.prog w = .ok (.enter 37 #[x]) w := by kernel_rfl
theorem ptr46 (w : World) : (FmtStop.ptrTo "errors.errorString").run Tryf.prog w = .ok 46 w := by kernel_rfl
theorem elem46 (w : World) : (elemOf 46).run Tryf.prog w = .ok 48 w := by kernel_rfl
theorem isError46 (w : World) : (FmtDoors.textMethod 46 "Error").run Tryf.prog w = .ok true w := by kernel_rfl
theorem ptr44 (w : World) : (FmtStop.ptrTo "fmt.wrapError").run Tryf.prog w = .ok 44 w := by kernel_rfl
theorem elem44 (w : World) : (elemOf 44).run Tryf.prog w = .ok 66 w := by kernel_rfl
theorem isError44 (w : World) : (FmtDoors.textMethod 44 "Error").run Tryf.prog w = .ok true w := by kernel_rfl

end Go.Proofs.Qxb6002389aFmt.ft
