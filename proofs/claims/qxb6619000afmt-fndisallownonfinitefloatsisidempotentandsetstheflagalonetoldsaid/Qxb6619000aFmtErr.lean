/-
  CLOSED FACTS for a walk over fmt's stopped front 'fmt.errorf' at this dump (after the guide's worked example CheckFmt), and the contract of fmt.Errorf at the two formats of this program: whatever text fmt gives, a new error that is not nil; nothing old has turned.
-/
import Derived.Test.Qxb6619000aFmtRows
import Derived.WalkKit
import Derived.WalkSpells
import Derived.WalkLawsBesides
import Derived.Stop.CallBack
import Derived.Stop.IfaceNil
import GoSem.ClaimData
namespace Go.Proofs.Qxb6619000aFmt
open Go.RowKit Go.Extern.Stop Go.Stop Go.Extern

theorem call14 (args : Array Value) (w : World) : (callFunc 14 args).run Tryf.prog w = ((FmtStop.errorf #[9, 41] #[25] args).run Tryf.prog w).andThen fun v w' => .ok (.value v) w' :=
  run_callFunc_extern Tryf.func14 (by kernel_rfl) (by kernel_rfl) (by kernel_rfl) (by kernel_rfl) args w
theorem guardF (name : String) (w : World) : (FmtStop.guard name).run Tryf.prog w = .ok () w := by kernel_rfl
def fmtD : ByteArray := ⟨#[102, 105, 114, 109, 99, 111, 110, 102, 105, 103, 58, 32, 110, 101, 115, 116, 105, 110, 103, 32, 108, 105, 109, 105, 116, 32, 37, 100, 32, 105, 115, 32, 110, 111, 116, 32, 102, 114, 111, 109, 32, 48, 32, 116, 111, 32, 37, 100]⟩
def fmtL : ByteArray := ⟨#[102, 105, 114, 109, 99, 111, 110, 102, 105, 103, 58, 32, 108, 101, 110, 103, 116, 104, 32, 108, 105, 109, 105, 116, 32, 37, 100, 32, 105, 115, 32, 110, 111, 116, 32, 102, 114, 111, 109, 32, 48, 32, 116, 111, 32, 37, 100]⟩
theorem fmt0 : FmtStop.printed? ⟨#[102, 105, 114, 109, 99, 111, 110, 102, 105, 103, 58, 32, 110, 101, 115, 116, 105, 110, 103, 32, 108, 105, 109, 105, 116, 32, 37, 100, 32, 105, 115, 32, 110, 111, 116, 32, 102, 114, 111, 109, 32, 48, 32, 116, 111, 32, 37, 100]⟩ 2 = some [(0, 100, false), (1, 100, false)] := by kernel_rfl
theorem fmt0r (w : World) : (FmtDoors.printed ⟨#[102, 105, 114, 109, 99, 111, 110, 102, 105, 103, 58, 32, 110, 101, 115, 116, 105, 110, 103, 32, 108, 105, 109, 105, 116, 32, 37, 100, 32, 105, 115, 32, 110, 111, 116, 32, 102, 114, 111, 109, 32, 48, 32, 116, 111, 32, 37, 100]⟩ 2).run Tryf.prog w = .ok [(0, 100, false), (1, 100, false)] w := by kernel_rfl
theorem fmt1 : FmtStop.printed? ⟨#[102, 105, 114, 109, 99, 111, 110, 102, 105, 103, 58, 32, 108, 101, 110, 103, 116, 104, 32, 108, 105, 109, 105, 116, 32, 37, 100, 32, 105, 115, 32, 110, 111, 116, 32, 102, 114, 111, 109, 32, 48, 32, 116, 111, 32, 37, 100]⟩ 2 = some [(0, 100, false), (1, 100, false)] := by kernel_rfl
theorem fmt1r (w : World) : (FmtDoors.printed ⟨#[102, 105, 114, 109, 99, 111, 110, 102, 105, 103, 58, 32, 108, 101, 110, 103, 116, 104, 32, 108, 105, 109, 105, 116, 32, 37, 100, 32, 105, 115, 32, 110, 111, 116, 32, 102, 114, 111, 109, 32, 48, 32, 116, 111, 32, 37, 100]⟩ 2).run Tryf.prog w = .ok [(0, 100, false), (1, 100, false)] w := by kernel_rfl
def shape3 : List UInt8 := [5, 3, 0, 0, 0, 0, 0, 0, 0, 105, 110, 116]
theorem op3_118 (name : String) (x : Int) (w : World) : (FmtStop.operand name false 118 false (.iface 3 (.int .i64 x))).run Tryf.prog w = .ok (shape3, Go.Extern.Stop.digits 8 (x % 2 ^ 64).toNat) w := by kernel_rfl
theorem op3_100 (name : String) (x : Int) (w : World) : (FmtStop.operand name false 100 false (.iface 3 (.int .i64 x))).run Tryf.prog w = .ok (shape3, Go.Extern.Stop.digits 8 (x % 2 ^ 64).toNat) w := by kernel_rfl
theorem op3_100w (name : String) (x : Int) (w : World) : (FmtStop.operand name true 100 false (.iface 3 (.int .i64 x))).run Tryf.prog w = .ok (shape3, Go.Extern.Stop.digits 8 (x % 2 ^ 64).toNat) w := by kernel_rfl
theorem ptr44 (w : World) : (FmtStop.ptrTo "errors.errorString").run Tryf.prog w = .ok 44 w := by kernel_rfl
theorem elem44 (w : World) : (elemOf 44).run Tryf.prog w = .ok 46 w := by kernel_rfl
theorem isErr44 (w : World) : (FmtDoors.textMethod 44 "Error").run Tryf.prog w = .ok true w := by kernel_rfl

end Go.Proofs.Qxb6619000aFmt
