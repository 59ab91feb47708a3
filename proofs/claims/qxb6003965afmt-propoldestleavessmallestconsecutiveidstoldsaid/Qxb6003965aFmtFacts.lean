/-
  Seat b6003965aF: the closed facts for a walk over fmt.Errorf (after the guide's CheckFmt.lean, at this program's numbers).
-/
import Derived.Test.Qxb6003965aFmtRows
import Derived.Stop.CallBack
import Derived.Stop.IfaceNil
import GoSem.ClaimData
namespace Go.Proofs.Qxb6003965aFmt
open Go.Extern.Stop Go.Stop Go.Extern

theorem call56 (args : Array Value) (w : World) : (callFunc 56 args).run Tryf.prog w = ((FmtStop.errorf #[9, 101] #[25] args).run Tryf.prog w).andThen fun v w' => .ok (.value v) w' :=
  run_callFunc_extern Tryf.func56 (by kernel_rfl) (by kernel_rfl) (by kernel_rfl) (by kernel_rfl) args w
theorem guard0 (name : String) (w : World) : (FmtStop.guard name).run Tryf.prog w = .ok () w := by kernel_rfl
theorem fmt0 : FmtStop.printed? ⟨#[110, 111, 100, 101, 115, 32, 109, 117, 115, 116, 32, 98, 101, 32, 97, 116, 32, 108, 101, 97, 115, 116, 32, 49, 44, 32, 110, 111, 116, 32, 37, 100]⟩ 1 = some [(0, 100, false)] := by kernel_rfl
theorem fmt0r (w : World) : (FmtDoors.printed ⟨#[110, 111, 100, 101, 115, 32, 109, 117, 115, 116, 32, 98, 101, 32, 97, 116, 32, 108, 101, 97, 115, 116, 32, 49, 44, 32, 110, 111, 116, 32, 37, 100]⟩ 1).run Tryf.prog w = .ok [(0, 100, false)] w := by kernel_rfl
theorem fmt1 : FmtStop.printed? ⟨#[110, 111, 100, 101, 115, 32, 109, 117, 115, 116, 32, 98, 101, 32, 97, 116, 32, 109, 111, 115, 116, 32, 37, 100, 44, 32, 110, 111, 116, 32, 37, 100]⟩ 2 = some [(0, 100, false), (1, 100, false)] := by kernel_rfl
theorem fmt1r (w : World) : (FmtDoors.printed ⟨#[110, 111, 100, 101, 115, 32, 109, 117, 115, 116, 32, 98, 101, 32, 97, 116, 32, 109, 111, 115, 116, 32, 37, 100, 44, 32, 110, 111, 116, 32, 37, 100]⟩ 2).run Tryf.prog w = .ok [(0, 100, false), (1, 100, false)] w := by kernel_rfl
theorem fmt2 : FmtStop.printed? ⟨#[97, 116, 116, 97, 99, 104, 32, 99, 97, 112, 32, 109, 117, 115, 116, 32, 98, 101, 32, 97, 116, 32, 108, 101, 97, 115, 116, 32, 49, 44, 32, 110, 111, 116, 32, 37, 100]⟩ 1 = some [(0, 100, false)] := by kernel_rfl
theorem fmt2r (w : World) : (FmtDoors.printed ⟨#[97, 116, 116, 97, 99, 104, 32, 99, 97, 112, 32, 109, 117, 115, 116, 32, 98, 101, 32, 97, 116, 32, 108, 101, 97, 115, 116, 32, 49, 44, 32, 110, 111, 116, 32, 37, 100]⟩ 1).run Tryf.prog w = .ok [(0, 100, false)] w := by kernel_rfl
theorem fmt3 : FmtStop.printed? ⟨#[114, 111, 117, 110, 100, 115, 32, 109, 117, 115, 116, 32, 98, 101, 32, 97, 116, 32, 108, 101, 97, 115, 116, 32, 49, 44, 32, 110, 111, 116, 32, 37, 100]⟩ 1 = some [(0, 100, false)] := by kernel_rfl
theorem fmt3r (w : World) : (FmtDoors.printed ⟨#[114, 111, 117, 110, 100, 115, 32, 109, 117, 115, 116, 32, 98, 101, 32, 97, 116, 32, 108, 101, 97, 115, 116, 32, 49, 44, 32, 110, 111, 116, 32, 37, 100]⟩ 1).run Tryf.prog w = .ok [(0, 100, false)] w := by kernel_rfl
theorem fmt4 : FmtStop.printed? ⟨#[98, 111, 111, 116, 115, 116, 114, 97, 112, 32, 109, 117, 115, 116, 32, 110, 111, 116, 32, 98, 101, 32, 110, 101, 103, 97, 116, 105, 118, 101, 44, 32, 110, 111, 116, 32, 37, 100]⟩ 1 = some [(0, 100, false)] := by kernel_rfl
theorem fmt4r (w : World) : (FmtDoors.printed ⟨#[98, 111, 111, 116, 115, 116, 114, 97, 112, 32, 109, 117, 115, 116, 32, 110, 111, 116, 32, 98, 101, 32, 110, 101, 103, 97, 116, 105, 118, 101, 44, 32, 110, 111, 116, 32, 37, 100]⟩ 1).run Tryf.prog w = .ok [(0, 100, false)] w := by kernel_rfl
theorem fmt5 : FmtStop.printed? ⟨#[99, 104, 117, 114, 110, 32, 109, 117, 115, 116, 32, 110, 111, 116, 32, 98, 101, 32, 110, 101, 103, 97, 116, 105, 118, 101, 44, 32, 110, 111, 116, 32, 37, 100]⟩ 1 = some [(0, 100, false)] := by kernel_rfl
theorem fmt5r (w : World) : (FmtDoors.printed ⟨#[99, 104, 117, 114, 110, 32, 109, 117, 115, 116, 32, 110, 111, 116, 32, 98, 101, 32, 110, 101, 103, 97, 116, 105, 118, 101, 44, 32, 110, 111, 116, 32, 37, 100]⟩ 1).run Tryf.prog w = .ok [(0, 100, false)] w := by kernel_rfl
theorem fmt6 : FmtStop.printed? ⟨#[99, 104, 117, 114, 110, 32, 37, 100, 32, 109, 117, 115, 116, 32, 98, 101, 32, 98, 101, 108, 111, 119, 32, 116, 104, 101, 32, 37, 100, 32, 110, 111, 100, 101, 115]⟩ 2 = some [(0, 100, false), (1, 100, false)] := by kernel_rfl
theorem fmt6r (w : World) : (FmtDoors.printed ⟨#[99, 104, 117, 114, 110, 32, 37, 100, 32, 109, 117, 115, 116, 32, 98, 101, 32, 98, 101, 108, 111, 119, 32, 116, 104, 101, 32, 37, 100, 32, 110, 111, 100, 101, 115]⟩ 2).run Tryf.prog w = .ok [(0, 100, false), (1, 100, false)] w := by kernel_rfl
theorem fmt7 : FmtStop.printed? ⟨#[37, 100, 32, 110, 101, 119, 32, 110, 111, 100, 101, 115, 32, 99, 97, 110, 110, 111, 116, 32, 106, 111, 105, 110, 32, 116, 104, 114, 111, 117, 103, 104, 32, 37, 100, 32, 101, 110, 116, 114, 121, 32, 110, 111, 100, 101, 115, 32, 111, 102, 32, 97, 116, 116, 97, 99, 104, 32, 99, 97, 112, 32, 37, 100]⟩ 3 = some [(0, 100, false), (1, 100, false), (2, 100, false)] := by kernel_rfl
theorem fmt7r (w : World) : (FmtDoors.printed ⟨#[37, 100, 32, 110, 101, 119, 32, 110, 111, 100, 101, 115, 32, 99, 97, 110, 110, 111, 116, 32, 106, 111, 105, 110, 32, 116, 104, 114, 111, 117, 103, 104, 32, 37, 100, 32, 101, 110, 116, 114, 121, 32, 110, 111, 100, 101, 115, 32, 111, 102, 32, 97, 116, 116, 97, 99, 104, 32, 99, 97, 112, 32, 37, 100]⟩ 3).run Tryf.prog w = .ok [(0, 100, false), (1, 100, false), (2, 100, false)] w := by kernel_rfl
def shape3 : List UInt8 := [5, 3, 0, 0, 0, 0, 0, 0, 0, 105, 110, 116]
theorem op3_100 (name : String) (x : Int) (w : World) : (FmtStop.operand name false 100 false (.iface 3 (.int .i64 x))).run Tryf.prog w = .ok (shape3, Go.Extern.Stop.digits 8 (x % 2 ^ 64).toNat) w := by kernel_rfl
theorem op3_100w (name : String) (x : Int) (w : World) : (FmtStop.operand name true 100 false (.iface 3 (.int .i64 x))).run Tryf.prog w = .ok (shape3, Go.Extern.Stop.digits 8 (x % 2 ^ 64).toNat) w := by kernel_rfl
theorem ptr111 (w : World) : (FmtStop.ptrTo "errors.errorString").run Tryf.prog w = .ok 111 w := by kernel_rfl
theorem elem111 (w : World) : (elemOf 111).run Tryf.prog w = .ok 113 w := by kernel_rfl
theorem isError111 (w : World) : (FmtDoors.textMethod 111 "Error").run Tryf.prog w = .ok true w := by kernel_rfl
end Go.Proofs.Qxb6003965aFmt
