/-
  THE CLOSED FACTS FOR THE WALK OVER fmt's STOPPED FRONTS, at this dump's numbers, each proved by the kernel's own evaluation; the walks take them by 'attribute [local go_sem]'.
-/
import Derived.Test.YbulkdcraFmtProg
import Derived.Stop.CallBack
import Derived.Stop.IfaceNil
import GoSem.ClaimData
namespace Go.Proofs
open Go.Extern.Stop Go.Stop Go.Extern

theorem Ybaf.call35 (args : Array Value) (w : World) : (callFunc 35 args).run Ybaf.prog w = (FmtCalls.errorf #[9, 68] #[31] args).run Ybaf.prog w :=
  run_callFunc_next Ybaf.func35 (by kernel_rfl) (by kernel_rfl) (by kernel_rfl) args w
theorem Ybaf.call44 (args : Array Value) (w : World) : (callFunc 44 args).run Ybaf.prog w = ((FmtStop.sprintf #[9, 68] #[9] args).run Ybaf.prog w).andThen fun v w' => .ok (.value v) w' :=
  run_callFunc_extern Ybaf.func44 (by kernel_rfl) (by kernel_rfl) (by kernel_rfl) (by kernel_rfl) args w
theorem Ybaf.guard (name : String) (w : World) : (FmtStop.guard name).run Ybaf.prog w = .ok () w := by kernel_rfl
theorem Ybaf.nextTurns : Extern.next FmtCalls.turnsRow = some (FmtCalls.begun #[] #[]) := by kernel_rfl
theorem Ybaf.nextReturned : Extern.next FmtCalls.returnedRow = some (FmtCalls.returned #[] #[]) := by kernel_rfl

theorem Ybaf.fmt1 : FmtStop.printed? ⟨#[37, 118, 32, 105, 115, 32, 110, 111, 116, 32, 97, 32, 115, 101, 115, 115, 105, 111, 110, 45, 107, 101, 121, 32, 97, 108, 103, 111, 114, 105, 116, 104, 109, 58, 32, 97, 32, 83, 73, 77, 80, 76, 69, 66, 76, 79, 66, 32, 104, 101, 114, 101, 32, 99, 97, 114, 114, 105, 101, 115, 32, 97, 32, 107, 101, 121, 32, 111, 102, 32, 111, 110, 101, 32, 111, 102, 32, 37, 115]⟩ 2 = some [(0, 118, false), (1, 115, false)] := by kernel_rfl
theorem Ybaf.fmt1r (w : World) : (FmtDoors.printed ⟨#[37, 118, 32, 105, 115, 32, 110, 111, 116, 32, 97, 32, 115, 101, 115, 115, 105, 111, 110, 45, 107, 101, 121, 32, 97, 108, 103, 111, 114, 105, 116, 104, 109, 58, 32, 97, 32, 83, 73, 77, 80, 76, 69, 66, 76, 79, 66, 32, 104, 101, 114, 101, 32, 99, 97, 114, 114, 105, 101, 115, 32, 97, 32, 107, 101, 121, 32, 111, 102, 32, 111, 110, 101, 32, 111, 102, 32, 37, 115]⟩ 2).run Ybaf.prog w = .ok [(0, 118, false), (1, 115, false)] w := by kernel_rfl
theorem Ybaf.fmt2 : FmtStop.printed? ⟨#[37, 118, 32, 116, 97, 107, 101, 115, 32, 97, 32, 115, 101, 115, 115, 105, 111, 110, 32, 107, 101, 121, 32, 111, 102, 32, 37, 100, 32, 98, 121, 116, 101, 115, 44, 32, 110, 111, 116, 32, 37, 100]⟩ 3 = some [(0, 118, false), (1, 100, false), (2, 100, false)] := by kernel_rfl
theorem Ybaf.fmt2r (w : World) : (FmtDoors.printed ⟨#[37, 118, 32, 116, 97, 107, 101, 115, 32, 97, 32, 115, 101, 115, 115, 105, 111, 110, 32, 107, 101, 121, 32, 111, 102, 32, 37, 100, 32, 98, 121, 116, 101, 115, 44, 32, 110, 111, 116, 32, 37, 100]⟩ 3).run Ybaf.prog w = .ok [(0, 118, false), (1, 100, false), (2, 100, false)] w := by kernel_rfl
theorem Ybaf.fmt3 : FmtStop.printed? ⟨#[37, 118, 32, 116, 97, 107, 101, 115, 32, 97, 32, 115, 101, 115, 115, 105, 111, 110, 32, 107, 101, 121, 32, 111, 102, 32, 37, 100, 32, 116, 111, 32, 37, 100, 32, 98, 121, 116, 101, 115, 44, 32, 110, 111, 116, 32, 37, 100]⟩ 4 = some [(0, 118, false), (1, 100, false), (2, 100, false), (3, 100, false)] := by kernel_rfl
theorem Ybaf.fmt3r (w : World) : (FmtDoors.printed ⟨#[37, 118, 32, 116, 97, 107, 101, 115, 32, 97, 32, 115, 101, 115, 115, 105, 111, 110, 32, 107, 101, 121, 32, 111, 102, 32, 37, 100, 32, 116, 111, 32, 37, 100, 32, 98, 121, 116, 101, 115, 44, 32, 110, 111, 116, 32, 37, 100]⟩ 4).run Ybaf.prog w = .ok [(0, 118, false), (1, 100, false), (2, 100, false), (3, 100, false)] w := by kernel_rfl
theorem Ybaf.fmt4 : FmtStop.printed? ⟨#[48, 120, 37, 48, 56, 120]⟩ 1 = some [(0, 120, false)] := by kernel_rfl
theorem Ybaf.fmt4r (w : World) : (FmtDoors.printed ⟨#[48, 120, 37, 48, 56, 120]⟩ 1).run Ybaf.prog w = .ok [(0, 120, false)] w := by kernel_rfl

theorem Ybaf.act36_118w (name : String) (x : Value) (w : World) : (FmtCalls.act name true 118 false (.iface 36 x)).run Ybaf.prog w = .ok (.call false) w := by kernel_rfl
theorem Ybaf.isString36 (w : World) : (FmtDoors.textMethod 36 "String").run Ybaf.prog w = .ok true w := by kernel_rfl
theorem Ybaf.invokeString36 (x : Value) (w : World) : (invoke (.fn (.method "String") #[]) #[.iface 36 x]).run Ybaf.prog w = .ok (.enter 36 #[x]) w := by kernel_rfl
theorem Ybaf.str36 (w : World) : (typeStr 36).run Ybaf.prog w = .ok "blobsmith.Algorithm" w := by kernel_rfl
def Ybaf.shape3 : List UInt8 := [5, 3, 0, 0, 0, 0, 0, 0, 0, 105, 110, 116]
theorem Ybaf.act3_100w (name : String) (x : Value) (w : World) : (FmtCalls.act name true 100 false (.iface 3 x)).run Ybaf.prog w = .ok (.closed true) w := by kernel_rfl
theorem Ybaf.op3_100w (name : String) (x : Int) (w : World) : (FmtStop.operand name true 100 false (.iface 3 (.int .i64 x))).run Ybaf.prog w = .ok (Ybaf.shape3, Go.Extern.Stop.digits 8 (x % 2 ^ 64).toNat) w := by kernel_rfl
theorem Ybaf.str3 (w : World) : (typeStr 3).run Ybaf.prog w = .ok "int" w := by kernel_rfl
def Ybaf.shape9 : List UInt8 := [12, 6, 0, 0, 0, 0, 0, 0, 0, 115, 116, 114, 105, 110, 103]
theorem Ybaf.act9_115w (name : String) (x : Value) (w : World) : (FmtCalls.act name true 115 false (.iface 9 x)).run Ybaf.prog w = .ok (.closed true) w := by kernel_rfl
theorem Ybaf.op9_115w (name : String) (x : ByteArray) (w : World) : (FmtStop.operand name true 115 false (.iface 9 (.string x))).run Ybaf.prog w = .ok (Ybaf.shape9, FmtStop.pack x.data.toList) w := by kernel_rfl
theorem Ybaf.str9 (w : World) : (typeStr 9).run Ybaf.prog w = .ok "string" w := by kernel_rfl
def Ybaf.shape35 : List UInt8 := [8, 6, 0, 0, 0, 0, 0, 0, 0, 117, 105, 110, 116, 51, 50]
theorem Ybaf.op35_120 (name : String) (x : Int) (w : World) : (FmtStop.operand name false 120 false (.iface 35 (.int .u32 x))).run Ybaf.prog w = .ok (Ybaf.shape35, Go.Extern.Stop.digits 8 (x % 2 ^ 64).toNat) w := by kernel_rfl
theorem Ybaf.str35 (w : World) : (typeStr 35).run Ybaf.prog w = .ok "uint32" w := by kernel_rfl
theorem Ybaf.ptr65 (w : World) : (FmtStop.ptrTo "errors.errorString").run Ybaf.prog w = .ok 65 w := by kernel_rfl
theorem Ybaf.elem65 (w : World) : (elemOf 65).run Ybaf.prog w = .ok 67 w := by kernel_rfl
theorem Ybaf.isError65 (w : World) : (FmtDoors.textMethod 65 "Error").run Ybaf.prog w = .ok true w := by kernel_rfl
end Go.Proofs
