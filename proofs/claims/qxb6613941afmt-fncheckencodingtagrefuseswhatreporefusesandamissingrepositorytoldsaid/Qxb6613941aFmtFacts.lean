/-
  Seat b6613941aF. CLOSED FACTS over this dump for a walk over fmt's stopped fronts (after the guide's NameFmt texts; typed by hand: the tool that prints them is not in this box). Each is proved by the kernel's own reckoning.
-/
import Derived.Test.Qxb6613941aFmtCards
import Derived.Stop.CallBack
import Derived.Stop.IfaceNil
import GoSem.ClaimData
namespace Go.Proofs.Qxb6613941aFmt
open Go.Extern.Stop Go.Stop Go.Extern

theorem call13 (args : Array Value) (w : World) : (callFunc 13 args).run Tryf.prog w = (FmtCalls.errorf #[9, 46] #[29] args).run Tryf.prog w :=
  run_callFunc_next Tryf.func13 (by kernel_rfl) (by kernel_rfl) (by kernel_rfl) args w
theorem call16 (args : Array Value) (w : World) : (callFunc 16 args).run Tryf.prog w = ((FmtStop.sprintf #[9, 46] #[9] args).run Tryf.prog w).andThen fun v w' => .ok (.value v) w' :=
  run_callFunc_extern Tryf.func16 (by kernel_rfl) (by kernel_rfl) (by kernel_rfl) (by kernel_rfl) args w
theorem guardF (name : String) (w : World) : (FmtStop.guard name).run Tryf.prog w = .ok () w := by kernel_rfl
theorem nextTurns : Extern.next FmtCalls.turnsRow = some (FmtCalls.begun #[] #[]) := by kernel_rfl
theorem nextReturned : Extern.next FmtCalls.returnedRow = some (FmtCalls.returned #[] #[]) := by kernel_rfl

-- the three formats
def bytesA : ByteArray := ⟨#[37, 115, 58, 32, 37, 115, 46, 115, 116, 114, 105, 112, 80, 114, 101, 102, 105, 120, 58, 32, 110, 111, 32, 112, 114, 101, 102, 105, 120, 32, 99, 97, 110, 32, 98, 101, 32, 115, 116, 114, 105, 112, 112, 101, 100, 32, 117, 110, 100, 101, 114, 32, 116, 104, 101, 32, 112, 97, 116, 104, 32, 101, 110, 99, 111, 100, 105, 110, 103, 32, 37, 113, 44, 32, 119, 104, 105, 99, 104, 32, 104, 97, 115, 104, 101, 115, 32, 116, 104, 101, 32, 119, 104, 111, 108, 101, 32, 109, 111, 100, 117, 108, 101, 32, 112, 97, 116, 104]⟩
def bytesB : ByteArray := ⟨#[37, 115, 58, 32, 37, 115, 46, 114, 101, 103, 105, 115, 116, 114, 121, 58, 32, 116, 104, 101, 32, 112, 97, 116, 104, 32, 101, 110, 99, 111, 100, 105, 110, 103, 32, 37, 113, 32, 107, 101, 101, 112, 115, 32, 101, 118, 101, 114, 121, 32, 109, 111, 100, 117, 108, 101, 32, 105, 110, 32, 116, 104, 101, 32, 114, 101, 103, 105, 115, 116, 114, 121, 39, 115, 32, 114, 101, 112, 111, 115, 105, 116, 111, 114, 121, 32, 112, 114, 101, 102, 105, 120, 44, 32, 97, 110, 100, 32, 37, 113, 32, 104, 97, 115, 32, 110, 111, 110, 101, 58, 32, 119, 97, 110, 116, 32, 72, 79, 83, 84, 91, 58, 80, 79, 82, 84, 93, 47, 82, 69, 80, 79, 83, 73, 84, 79, 82, 89, 45, 80, 82, 69, 70, 73, 88]⟩
theorem fmtS : FmtStop.printed? ⟨#[37, 115, 58, 37, 100, 58, 37, 100]⟩ 3 = some [(0, 115, false), (1, 100, false), (2, 100, false)] := by kernel_rfl
theorem fmtSr (w : World) : (FmtDoors.printed ⟨#[37, 115, 58, 37, 100, 58, 37, 100]⟩ 3).run Tryf.prog w = .ok [(0, 115, false), (1, 100, false), (2, 100, false)] w := by kernel_rfl
theorem fmtA : FmtStop.printed? bytesA 3 = some [(0, 115, false), (1, 115, false), (2, 113, false)] := by kernel_rfl
theorem fmtAr (w : World) : (FmtDoors.printed bytesA 3).run Tryf.prog w = .ok [(0, 115, false), (1, 115, false), (2, 113, false)] w := by kernel_rfl
theorem fmtB : FmtStop.printed? bytesB 4 = some [(0, 115, false), (1, 115, false), (2, 113, false), (3, 113, false)] := by kernel_rfl
theorem fmtBr (w : World) : (FmtDoors.printed bytesB 4).run Tryf.prog w = .ok [(0, 115, false), (1, 115, false), (2, 113, false), (3, 113, false)] w := by kernel_rfl

-- what each operand reads as
theorem act38w (name : String) (x : Value) (w : World) : (FmtCalls.act name true 115 false (.iface 38 x)).run Tryf.prog w = .ok (.call false) w := by kernel_rfl
theorem isString38 (w : World) : (FmtDoors.textMethod 38 "String").run Tryf.prog w = .ok true w := by kernel_rfl
theorem invokeString38 (x : Value) (w : World) : (invoke (.fn (.method "String") #[]) #[.iface 38 x]).run Tryf.prog w = .ok (.enter 15 #[x]) w := by kernel_rfl
theorem str38 (w : World) : (typeStr 38).run Tryf.prog w = .ok "cuedata.Pos" w := by kernel_rfl
def shape9 : List UInt8 := [12, 6, 0, 0, 0, 0, 0, 0, 0, 115, 116, 114, 105, 110, 103]
theorem act9w (name : String) (x : Value) (w : World) : (FmtCalls.act name true 115 false (.iface 9 x)).run Tryf.prog w = .ok (.closed true) w := by kernel_rfl
theorem op9w (name : String) (x : ByteArray) (w : World) : (FmtStop.operand name true 115 false (.iface 9 (.string x))).run Tryf.prog w = .ok (shape9, FmtStop.pack x.data.toList) w := by kernel_rfl
theorem op9 (name : String) (x : ByteArray) (w : World) : (FmtStop.operand name false 115 false (.iface 9 (.string x))).run Tryf.prog w = .ok (shape9, FmtStop.pack x.data.toList) w := by kernel_rfl
def shape3 : List UInt8 := [5, 3, 0, 0, 0, 0, 0, 0, 0, 105, 110, 116]
theorem op3 (name : String) (x : Int) (w : World) : (FmtStop.operand name false 100 false (.iface 3 (.int .i64 x))).run Tryf.prog w = .ok (shape3, Go.Extern.Stop.digits 8 (x % 2 ^ 64).toNat) w := by kernel_rfl
theorem actNil (name : String) (w : World) : (FmtCalls.act name true 113 false .nilIface).run Tryf.prog w = .ok (.closed true) w := by kernel_rfl
theorem opNil (name : String) (w : World) : (FmtStop.operand name true 113 false .nilIface).run Tryf.prog w = .ok ([0], []) w := by kernel_rfl
theorem ptr49 (w : World) : (FmtStop.ptrTo "errors.errorString").run Tryf.prog w = .ok 49 w := by kernel_rfl
theorem elem49 (w : World) : (elemOf 49).run Tryf.prog w = .ok 51 w := by kernel_rfl
end Go.Proofs.Qxb6613941aFmt
