/-
  THE CLOSED FACTS FOR A WALK OVER fmt's STOPPED FRONTS at this seat's dump, typed after the guide's generated texts (HexbadFmt.lean, LevelsFmt.lean, PortFmt.lean). Each is proved by the kernel's own evaluation.
-/
import Derived.Test.Qxb6617768aFmtProg
import Derived.Stop.CallBack
import Derived.Stop.IfaceNil
import GoSem.ClaimData
namespace Go.Proofs.Qxb6617768aFmt
open Go.Extern.Stop Go.Stop Go.Extern

-- fmt.errorf: function 13: a stop that calls its operands' methods
@[go_sem] theorem Fx.call13 (args : Array Value) (w : World) : (callFunc 13 args).run Tryf.prog w = (FmtCalls.errorf #[9, 37] #[25] args).run Tryf.prog w :=
  run_callFunc_next Tryf.func13 (by kernel_rfl) (by kernel_rfl) (by kernel_rfl) args w
-- fmt.Sprintf: function 15: a plain stop
@[go_sem] theorem Fx.call15 (args : Array Value) (w : World) : (callFunc 15 args).run Tryf.prog w = ((FmtStop.sprintf #[9, 37] #[9] args).run Tryf.prog w).andThen fun v w' => .ok (.value v) w' :=
  run_callFunc_extern Tryf.func15 (by kernel_rfl) (by kernel_rfl) (by kernel_rfl) (by kernel_rfl) args w
@[go_sem] theorem Fx.guard (name : String) (w : World) : (FmtStop.guard name).run Tryf.prog w = .ok () w := by kernel_rfl
theorem Fx.nextTurns : Extern.next FmtCalls.turnsRow = some (FmtCalls.begun #[] #[]) := by kernel_rfl
theorem Fx.nextReturned : Extern.next FmtCalls.returnedRow = some (FmtCalls.returned #[] #[]) := by kernel_rfl

@[go_sem] theorem Fx.fmt0 : FmtStop.printed? ⟨#[101, 108, 101, 99, 116, 105, 111, 110, 32, 110, 97, 109, 101, 32, 37, 113, 32, 105, 115, 32, 110, 111, 116, 32, 49, 32, 116, 111, 32, 37, 100, 32, 99, 104, 97, 114, 97, 99, 116, 101, 114, 115, 32, 108, 111, 110, 103]⟩ 2 = some [(0, 113, false), (1, 100, false)] := by kernel_rfl
@[go_sem] theorem Fx.fmt0r (w : World) : (FmtDoors.printed ⟨#[101, 108, 101, 99, 116, 105, 111, 110, 32, 110, 97, 109, 101, 32, 37, 113, 32, 105, 115, 32, 110, 111, 116, 32, 49, 32, 116, 111, 32, 37, 100, 32, 99, 104, 97, 114, 97, 99, 116, 101, 114, 115, 32, 108, 111, 110, 103]⟩ 2).run Tryf.prog w = .ok [(0, 113, false), (1, 100, false)] w := by kernel_rfl
@[go_sem] theorem Fx.fmt1 : FmtStop.printed? ⟨#[101, 108, 101, 99, 116, 105, 111, 110, 32, 110, 97, 109, 101, 32, 37, 113, 32, 104, 111, 108, 100, 115, 32, 37, 113, 58, 32, 111, 110, 108, 121, 32, 65, 45, 90, 32, 97, 45, 122, 32, 48, 45, 57, 32, 46, 32, 95, 32, 45, 32, 97, 114, 101, 32, 97, 108, 108, 111, 119, 101, 100]⟩ 2 = some [(0, 113, false), (1, 113, false)] := by kernel_rfl
@[go_sem] theorem Fx.fmt1r (w : World) : (FmtDoors.printed ⟨#[101, 108, 101, 99, 116, 105, 111, 110, 32, 110, 97, 109, 101, 32, 37, 113, 32, 104, 111, 108, 100, 115, 32, 37, 113, 58, 32, 111, 110, 108, 121, 32, 65, 45, 90, 32, 97, 45, 122, 32, 48, 45, 57, 32, 46, 32, 95, 32, 45, 32, 97, 114, 101, 32, 97, 108, 108, 111, 119, 101, 100]⟩ 2).run Tryf.prog w = .ok [(0, 113, false), (1, 113, false)] w := by kernel_rfl
@[go_sem] theorem Fx.fmt2 : FmtStop.printed? ⟨#[117, 110, 107, 110, 111, 119, 110, 32, 115, 116, 97, 116, 101, 32, 37, 118]⟩ 1 = some [(0, 118, false)] := by kernel_rfl
@[go_sem] theorem Fx.fmt2r (w : World) : (FmtDoors.printed ⟨#[117, 110, 107, 110, 111, 119, 110, 32, 115, 116, 97, 116, 101, 32, 37, 118]⟩ 1).run Tryf.prog w = .ok [(0, 118, false)] w := by kernel_rfl
@[go_sem] theorem Fx.fmt3 : FmtStop.printed? ⟨#[83, 116, 97, 116, 101, 40, 37, 100, 41]⟩ 1 = some [(0, 100, false)] := by kernel_rfl
@[go_sem] theorem Fx.fmt3r (w : World) : (FmtDoors.printed ⟨#[83, 116, 97, 116, 101, 40, 37, 100, 41]⟩ 1).run Tryf.prog w = .ok [(0, 100, false)] w := by kernel_rfl
def Fx.shape9 : List UInt8 := [12, 6, 0, 0, 0, 0, 0, 0, 0, 115, 116, 114, 105, 110, 103]
def Fx.shape3 : List UInt8 := [5, 3, 0, 0, 0, 0, 0, 0, 0, 105, 110, 116]
def Fx.shape21 : List UInt8 := [4, 5, 0, 0, 0, 0, 0, 0, 0, 105, 110, 116, 51, 50]
@[go_sem] theorem Fx.act9_113w (name : String) (x : Value) (w : World) : (FmtCalls.act name true 113 false (.iface 9 x)).run Tryf.prog w = .ok (.closed true) w := by kernel_rfl
@[go_sem] theorem Fx.op9_113w (name : String) (x : ByteArray) (w : World) : (FmtStop.operand name true 113 false (.iface 9 (.string x))).run Tryf.prog w = .ok (Fx.shape9, FmtStop.pack x.data.toList) w := by kernel_rfl
@[go_sem] theorem Fx.act3_100w (name : String) (x : Value) (w : World) : (FmtCalls.act name true 100 false (.iface 3 x)).run Tryf.prog w = .ok (.closed true) w := by kernel_rfl
@[go_sem] theorem Fx.op3_100w (name : String) (x : Int) (w : World) : (FmtStop.operand name true 100 false (.iface 3 (.int .i64 x))).run Tryf.prog w = .ok (Fx.shape3, Go.Extern.Stop.digits 8 (x % 2 ^ 64).toNat) w := by kernel_rfl
@[go_sem] theorem Fx.op3_100 (name : String) (x : Int) (w : World) : (FmtStop.operand name false 100 false (.iface 3 (.int .i64 x))).run Tryf.prog w = .ok (Fx.shape3, Go.Extern.Stop.digits 8 (x % 2 ^ 64).toNat) w := by kernel_rfl
@[go_sem] theorem Fx.act21_113w (name : String) (x : Value) (w : World) : (FmtCalls.act name true 113 false (.iface 21 x)).run Tryf.prog w = .ok (.closed true) w := by kernel_rfl
@[go_sem] theorem Fx.op21_113w (name : String) (x : Int) (w : World) : (FmtStop.operand name true 113 false (.iface 21 (.int .i32 x))).run Tryf.prog w = .ok (Fx.shape21, Go.Extern.Stop.digits 8 (x % 2 ^ 64).toNat) w := by kernel_rfl
@[go_sem] theorem Fx.act22_118w (name : String) (x : Value) (w : World) : (FmtCalls.act name true 118 false (.iface 22 x)).run Tryf.prog w = .ok (.call false) w := by kernel_rfl
theorem Fx.invokeString22 (x : Value) (w : World) : (invoke (.fn (.method "String") #[]) #[.iface 22 x]).run Tryf.prog w = .ok (.enter 11 #[x]) w := by kernel_rfl
@[go_sem] theorem Fx.str22 (w : World) : (typeStr 22).run Tryf.prog w = .ok "wholeads.State" w := by kernel_rfl
@[go_sem] theorem Fx.str9 (w : World) : (typeStr 9).run Tryf.prog w = .ok "string" w := by kernel_rfl
@[go_sem] theorem Fx.str3 (w : World) : (typeStr 3).run Tryf.prog w = .ok "int" w := by kernel_rfl
@[go_sem] theorem Fx.str21 (w : World) : (typeStr 21).run Tryf.prog w = .ok "int32" w := by kernel_rfl

-- the two error types that fmt.errorf makes
@[go_sem] theorem Fx.ptr40 (w : World) : (FmtStop.ptrTo "errors.errorString").run Tryf.prog w = .ok 40 w := by kernel_rfl
@[go_sem] theorem Fx.elem40 (w : World) : (elemOf 40).run Tryf.prog w = .ok 42 w := by kernel_rfl
@[go_sem] theorem Fx.isError40 (w : World) : (FmtDoors.textMethod 40 "Error").run Tryf.prog w = .ok true w := by kernel_rfl
@[go_sem] theorem Fx.ptr38 (w : World) : (FmtStop.ptrTo "fmt.wrapError").run Tryf.prog w = .ok 38 w := by kernel_rfl
@[go_sem] theorem Fx.elem38 (w : World) : (elemOf 38).run Tryf.prog w = .ok 59 w := by kernel_rfl
@[go_sem] theorem Fx.isError38 (w : World) : (FmtDoors.textMethod 38 "Error").run Tryf.prog w = .ok true w := by kernel_rfl
end Go.Proofs.Qxb6617768aFmt
