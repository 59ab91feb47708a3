/-
  Seat b6003757aF: the closed facts for a walk over fmt.Sprintf (after the guide's LabelFmt.lean, at this program's numbers).
-/
import Derived.Test.Qxb6003757aFmtRows
import Derived.Stop.CallBack
import Derived.Stop.IfaceNil
import GoSem.ClaimData
namespace Go.Proofs.Qxb6003757aFmt
open Go.Extern.Stop Go.Stop Go.Extern

theorem call23 (args : Array Value) (w : World) : (callFunc 23 args).run Tryf.prog w = ((FmtStop.sprintf #[9, 71] #[9] args).run Tryf.prog w).andThen fun v w' => .ok (.value v) w' :=
  run_callFunc_extern Tryf.func23 (by kernel_rfl) (by kernel_rfl) (by kernel_rfl) (by kernel_rfl) args w
theorem guard0 (name : String) (w : World) : (FmtStop.guard name).run Tryf.prog w = .ok () w := by kernel_rfl

theorem fmtA : FmtStop.printed? ⟨#[37, 100, 32, 105, 115, 32, 111, 117, 116, 32, 111, 102, 32, 114, 97, 110, 103, 101, 32, 49, 32, 116, 111, 32, 37, 100]⟩ 2 = some [(0, 100, false), (1, 100, false)] := by kernel_rfl
theorem fmtAr (w : World) : (FmtDoors.printed ⟨#[37, 100, 32, 105, 115, 32, 111, 117, 116, 32, 111, 102, 32, 114, 97, 110, 103, 101, 32, 49, 32, 116, 111, 32, 37, 100]⟩ 2).run Tryf.prog w = .ok [(0, 100, false), (1, 100, false)] w := by kernel_rfl
theorem fmtB : FmtStop.printed? ⟨#[37, 100, 32, 105, 115, 32, 97, 98, 111, 118, 101, 32, 37, 115, 32, 37, 100]⟩ 3 = some [(0, 100, false), (1, 115, false), (2, 100, false)] := by kernel_rfl
theorem fmtBr (w : World) : (FmtDoors.printed ⟨#[37, 100, 32, 105, 115, 32, 97, 98, 111, 118, 101, 32, 37, 115, 32, 37, 100]⟩ 3).run Tryf.prog w = .ok [(0, 100, false), (1, 115, false), (2, 100, false)] w := by kernel_rfl

def shape3 : List UInt8 := [5, 3, 0, 0, 0, 0, 0, 0, 0, 105, 110, 116]
theorem op3_100 (name : String) (x : Int) (w : World) : (FmtStop.operand name false 100 false (.iface 3 (.int .i64 x))).run Tryf.prog w = .ok (shape3, Go.Extern.Stop.digits 8 (x % 2 ^ 64).toNat) w := by kernel_rfl
def shape22 : List UInt8 := [9, 6, 0, 0, 0, 0, 0, 0, 0, 117, 105, 110, 116, 54, 52]
theorem op22_100 (name : String) (x : Int) (w : World) : (FmtStop.operand name false 100 false (.iface 22 (.int .u64 x))).run Tryf.prog w = .ok (shape22, Go.Extern.Stop.digits 8 (x % 2 ^ 64).toNat) w := by kernel_rfl
def shape47 : List UInt8 := [12, 15, 0, 0, 0, 0, 0, 0, 0, 98, 97, 110, 100, 119, 105, 100, 116, 104, 46, 80, 97, 114, 97, 109]
theorem op47_115 (name : String) (x : ByteArray) (w : World) : (FmtStop.operand name false 115 false (.iface 47 (.string x))).run Tryf.prog w = .ok (shape47, FmtStop.pack x.data.toList) w := by kernel_rfl
end Go.Proofs.Qxb6003757aFmt
