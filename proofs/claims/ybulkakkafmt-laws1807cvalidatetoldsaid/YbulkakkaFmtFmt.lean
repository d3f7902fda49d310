/-
  Closed facts for a walk over fmt's stopped fronts at this dump (after the kit's worked 'Fmt' texts): each by the kernel's own evaluation.
-/
import Derived.Test.YbulkakkaFmtRows
import Derived.Stop.CallBack
import Derived.Stop.IfaceNil
import GoSem.ClaimData
namespace Go.Proofs.YbulkakkaFmt
open Go.Extern.Stop Go.Stop Go.Extern

/-! fmt.errorf: function 20, a stop that calls its operands' methods; fmt.Sprintf: function 13, a plain stop -/
theorem Ybaf.call20 (args : Array Value) (w : World) : (callFunc 20 args).run Ybaf.prog w = (FmtCalls.errorf #[9, 61] #[28] args).run Ybaf.prog w :=
  run_callFunc_next Ybaf.func20 (by kernel_rfl) (by kernel_rfl) (by kernel_rfl) args w
theorem Ybaf.call13 (args : Array Value) (w : World) : (callFunc 13 args).run Ybaf.prog w = ((FmtStop.sprintf #[9, 61] #[9] args).run Ybaf.prog w).andThen fun v w' => .ok (.value v) w' :=
  run_callFunc_extern Ybaf.func13 (by kernel_rfl) (by kernel_rfl) (by kernel_rfl) (by kernel_rfl) args w
theorem Ybaf.guard (name : String) (w : World) : (FmtStop.guard name).run Ybaf.prog w = .ok () w := by kernel_rfl
theorem Ybaf.nextTurns : Extern.next FmtCalls.turnsRow = some (FmtCalls.begun #[] #[]) := by kernel_rfl
theorem Ybaf.nextReturned : Extern.next FmtCalls.returnedRow = some (FmtCalls.returned #[] #[]) := by kernel_rfl

/-! what the walk over each literal format gives -/
-- q, one operand
theorem Ybaf.fmt0 : FmtStop.printed? ⟨#[37, 113]⟩ 1 = some [(0, 113, false)] := by kernel_rfl
theorem Ybaf.fmt0r (w : World) : (FmtDoors.printed ⟨#[37, 113]⟩ 1).run Ybaf.prog w = .ok [(0, 113, false)] w := by kernel_rfl
-- types d name
theorem Ybaf.fmt1 : FmtStop.printed? ⟨#[116, 121, 112, 101, 115, 91, 37, 100, 93, 46, 110, 97, 109, 101]⟩ 1 = some [(0, 100, false)] := by kernel_rfl
theorem Ybaf.fmt1r (w : World) : (FmtDoors.printed ⟨#[116, 121, 112, 101, 115, 91, 37, 100, 93, 46, 110, 97, 109, 101]⟩ 1).run Ybaf.prog w = .ok [(0, 100, false)] w := by kernel_rfl
-- types d actions
theorem Ybaf.fmt2 : FmtStop.printed? ⟨#[116, 121, 112, 101, 115, 91, 37, 100, 93, 46, 97, 99, 116, 105, 111, 110, 115]⟩ 1 = some [(0, 100, false)] := by kernel_rfl
theorem Ybaf.fmt2r (w : World) : (FmtDoors.printed ⟨#[116, 121, 112, 101, 115, 91, 37, 100, 93, 46, 97, 99, 116, 105, 111, 110, 115]⟩ 1).run Ybaf.prog w = .ok [(0, 100, false)] w := by kernel_rfl
-- s d name
theorem Ybaf.fmt3 : FmtStop.printed? ⟨#[37, 115, 91, 37, 100, 93, 46, 110, 97, 109, 101]⟩ 2 = some [(0, 115, false), (1, 100, false)] := by kernel_rfl
theorem Ybaf.fmt3r (w : World) : (FmtDoors.printed ⟨#[37, 115, 91, 37, 100, 93, 46, 110, 97, 109, 101]⟩ 2).run Ybaf.prog w = .ok [(0, 115, false), (1, 100, false)] w := by kernel_rfl
-- s is not a name s
theorem Ybaf.fmt4 : FmtStop.printed? ⟨#[37, 115, 32, 105, 115, 32, 110, 111, 116, 32, 97, 32, 110, 97, 109, 101, 32, 40, 37, 115, 41]⟩ 2 = some [(0, 115, false), (1, 115, false)] := by kernel_rfl
theorem Ybaf.fmt4r (w : World) : (FmtDoors.printed ⟨#[37, 115, 32, 105, 115, 32, 110, 111, 116, 32, 97, 32, 110, 97, 109, 101, 32, 40, 37, 115, 41]⟩ 2).run Ybaf.prog w = .ok [(0, 115, false), (1, 115, false)] w := by kernel_rfl
-- s is taken by s d
theorem Ybaf.fmt5 : FmtStop.printed? ⟨#[37, 115, 32, 105, 115, 32, 116, 97, 107, 101, 110, 32, 98, 121, 32, 37, 115, 91, 37, 100, 93]⟩ 3 = some [(0, 115, false), (1, 115, false), (2, 100, false)] := by kernel_rfl
theorem Ybaf.fmt5r (w : World) : (FmtDoors.printed ⟨#[37, 115, 32, 105, 115, 32, 116, 97, 107, 101, 110, 32, 98, 121, 32, 37, 115, 91, 37, 100, 93]⟩ 3).run Ybaf.prog w = .ok [(0, 115, false), (1, 115, false), (2, 100, false)] w := by kernel_rfl
-- catalogue w
theorem Ybaf.fmt6 : FmtStop.printed? ⟨#[99, 97, 116, 97, 108, 111, 103, 117, 101, 58, 32, 37, 119]⟩ 1 = some [(0, 119, false)] := by kernel_rfl
theorem Ybaf.fmt6r (w : World) : (FmtDoors.printed ⟨#[99, 97, 116, 97, 108, 111, 103, 117, 101, 58, 32, 37, 119]⟩ 1).run Ybaf.prog w = .ok [(0, 119, false)] w := by kernel_rfl

/-! what each operand type reads as: 9 a string, 3 an int -/
def Ybaf.shape9 : List UInt8 := [12, 6, 0, 0, 0, 0, 0, 0, 0, 115, 116, 114, 105, 110, 103]
def Ybaf.shape3 : List UInt8 := [5, 3, 0, 0, 0, 0, 0, 0, 0, 105, 110, 116]
theorem Ybaf.op9_113 (name : String) (x : ByteArray) (w : World) : (FmtStop.operand name false 113 false (.iface 9 (.string x))).run Ybaf.prog w = .ok (Ybaf.shape9, FmtStop.pack x.data.toList) w := by kernel_rfl
theorem Ybaf.op9_115 (name : String) (x : ByteArray) (w : World) : (FmtStop.operand name false 115 false (.iface 9 (.string x))).run Ybaf.prog w = .ok (Ybaf.shape9, FmtStop.pack x.data.toList) w := by kernel_rfl
theorem Ybaf.op3_100 (name : String) (x : Int) (w : World) : (FmtStop.operand name false 100 false (.iface 3 (.int .i64 x))).run Ybaf.prog w = .ok (Ybaf.shape3, Go.Extern.Stop.digits 8 (x % 2 ^ 64).toNat) w := by kernel_rfl
theorem Ybaf.act9_115w (name : String) (x : Value) (w : World) : (FmtCalls.act name true 115 false (.iface 9 x)).run Ybaf.prog w = .ok (.closed true) w := by kernel_rfl
theorem Ybaf.op9_115w (name : String) (x : ByteArray) (w : World) : (FmtStop.operand name true 115 false (.iface 9 (.string x))).run Ybaf.prog w = .ok (Ybaf.shape9, FmtStop.pack x.data.toList) w := by kernel_rfl
theorem Ybaf.act3_100w (name : String) (x : Value) (w : World) : (FmtCalls.act name true 100 false (.iface 3 x)).run Ybaf.prog w = .ok (.closed true) w := by kernel_rfl
theorem Ybaf.op3_100w (name : String) (x : Int) (w : World) : (FmtStop.operand name true 100 false (.iface 3 (.int .i64 x))).run Ybaf.prog w = .ok (Ybaf.shape3, Go.Extern.Stop.digits 8 (x % 2 ^ 64).toNat) w := by kernel_rfl

/-! the two error types that fmt.errorf makes -/
theorem Ybaf.ptr76 (w : World) : (FmtStop.ptrTo "errors.errorString").run Ybaf.prog w = .ok 76 w := by kernel_rfl
theorem Ybaf.elem76 (w : World) : (elemOf 76).run Ybaf.prog w = .ok 78 w := by kernel_rfl
theorem Ybaf.ptr63 (w : World) : (FmtStop.ptrTo "fmt.wrapError").run Ybaf.prog w = .ok 63 w := by kernel_rfl
theorem Ybaf.elem63 (w : World) : (elemOf 63).run Ybaf.prog w = .ok 102 w := by kernel_rfl
theorem Ybaf.isError29 (w : World) : (FmtDoors.textMethod 29 "Error").run Ybaf.prog w = .ok true w := by kernel_rfl
theorem Ybaf.isIface28 : Ybaf.prog.isIface 28 = true := by kernel_rfl
end Go.Proofs.YbulkakkaFmt
