/-
  SEAT b6630568aF: THE CLOSED FACTS FOR A WALK OVER fmt's STOPPED FRONTS at this program (after the guide's own generated texts for its toys), and the texts that fmt is asked for.
-/
import Derived.Test.Qxb6630568aFmtRows
import Derived.Stop.CallBack
import Derived.Stop.IfaceNil
import GoSem.ClaimData
import Derived.Stop.FmtTextWidths
import Derived.Stop.FmtTextKit
namespace Go.Proofs.Qxb6630568aFmt
open Go.Extern.Stop Go.Stop Go.Extern

theorem call12 (args : Array Value) (w : World) : (callFunc 12 args).run Tryf.prog w = ((FmtStop.sprintf #[9, 30] #[9] args).run Tryf.prog w).andThen fun v w' => .ok (.value v) w' :=
  run_callFunc_extern Tryf.func12 (by kernel_rfl) (by kernel_rfl) (by kernel_rfl) (by kernel_rfl) args w
theorem call13 (args : Array Value) (w : World) : (callFunc 13 args).run Tryf.prog w = ((FmtStop.errorf #[9, 30] #[25] args).run Tryf.prog w).andThen fun v w' => .ok (.value v) w' :=
  run_callFunc_extern Tryf.func13 (by kernel_rfl) (by kernel_rfl) (by kernel_rfl) (by kernel_rfl) args w
theorem guardF (name : String) (w : World) : (FmtStop.guard name).run Tryf.prog w = .ok () w := by kernel_rfl

def holdsL : List UInt8 := [104, 111, 108, 100, 115, 32, 37, 113, 44, 32, 119, 104, 105, 99, 104, 32, 105, 115, 32, 110, 111, 116, 32, 97, 32, 108, 111, 119, 101, 114, 45, 99, 97, 115, 101, 32, 108, 101, 116, 116, 101, 114, 44, 32, 100, 105, 103, 105, 116, 32, 111, 114, 32, 104, 121, 112, 104, 101, 110]
def longL : List UInt8 := [105, 115, 32, 37, 100, 32, 99, 104, 97, 114, 97, 99, 116, 101, 114, 115, 32, 108, 111, 110, 103]
def siteL : List UInt8 := [115, 105, 116, 101, 32, 110, 97, 109, 101, 32, 37, 113, 32, 37, 115, 59, 32, 97, 32, 115, 105, 116, 101, 39, 115, 32, 110, 97, 109, 101, 32, 105, 115, 32, 49, 32, 116, 111, 32, 37, 100, 32, 108, 111, 119, 101, 114, 45, 99, 97, 115, 101, 32, 108, 101, 116, 116, 101, 114, 115, 44, 32, 100, 105, 103, 105, 116, 115, 32, 97, 110, 100, 32, 104, 121, 112, 104, 101, 110, 115, 44, 32, 115, 116, 97, 114, 116, 105, 110, 103, 32, 97, 110, 100, 32, 101, 110, 100, 105, 110, 103, 32, 119, 105, 116, 104, 32, 97, 32, 108, 101, 116, 116, 101, 114, 32, 111, 114, 32, 97, 32, 100, 105, 103, 105, 116]
theorem fmtH : FmtStop.printed? ⟨#[104, 111, 108, 100, 115, 32, 37, 113, 44, 32, 119, 104, 105, 99, 104, 32, 105, 115, 32, 110, 111, 116, 32, 97, 32, 108, 111, 119, 101, 114, 45, 99, 97, 115, 101, 32, 108, 101, 116, 116, 101, 114, 44, 32, 100, 105, 103, 105, 116, 32, 111, 114, 32, 104, 121, 112, 104, 101, 110]⟩ 1 = some [(0, 113, false)] := by kernel_rfl
theorem fmtHr (w : World) : (FmtDoors.printed ⟨#[104, 111, 108, 100, 115, 32, 37, 113, 44, 32, 119, 104, 105, 99, 104, 32, 105, 115, 32, 110, 111, 116, 32, 97, 32, 108, 111, 119, 101, 114, 45, 99, 97, 115, 101, 32, 108, 101, 116, 116, 101, 114, 44, 32, 100, 105, 103, 105, 116, 32, 111, 114, 32, 104, 121, 112, 104, 101, 110]⟩ 1).run Tryf.prog w = .ok [(0, 113, false)] w := by kernel_rfl
theorem fmtI : FmtStop.printed? ⟨#[105, 115, 32, 37, 100, 32, 99, 104, 97, 114, 97, 99, 116, 101, 114, 115, 32, 108, 111, 110, 103]⟩ 1 = some [(0, 100, false)] := by kernel_rfl
theorem fmtIr (w : World) : (FmtDoors.printed ⟨#[105, 115, 32, 37, 100, 32, 99, 104, 97, 114, 97, 99, 116, 101, 114, 115, 32, 108, 111, 110, 103]⟩ 1).run Tryf.prog w = .ok [(0, 100, false)] w := by kernel_rfl
theorem fmtC : FmtStop.printed? ⟨#[115, 105, 116, 101, 32, 110, 97, 109, 101, 32, 37, 113, 32, 37, 115, 59, 32, 97, 32, 115, 105, 116, 101, 39, 115, 32, 110, 97, 109, 101, 32, 105, 115, 32, 49, 32, 116, 111, 32, 37, 100, 32, 108, 111, 119, 101, 114, 45, 99, 97, 115, 101, 32, 108, 101, 116, 116, 101, 114, 115, 44, 32, 100, 105, 103, 105, 116, 115, 32, 97, 110, 100, 32, 104, 121, 112, 104, 101, 110, 115, 44, 32, 115, 116, 97, 114, 116, 105, 110, 103, 32, 97, 110, 100, 32, 101, 110, 100, 105, 110, 103, 32, 119, 105, 116, 104, 32, 97, 32, 108, 101, 116, 116, 101, 114, 32, 111, 114, 32, 97, 32, 100, 105, 103, 105, 116]⟩ 3 = some [(0, 113, false), (1, 115, false), (2, 100, false)] := by kernel_rfl
theorem fmtCr (w : World) : (FmtDoors.printed ⟨#[115, 105, 116, 101, 32, 110, 97, 109, 101, 32, 37, 113, 32, 37, 115, 59, 32, 97, 32, 115, 105, 116, 101, 39, 115, 32, 110, 97, 109, 101, 32, 105, 115, 32, 49, 32, 116, 111, 32, 37, 100, 32, 108, 111, 119, 101, 114, 45, 99, 97, 115, 101, 32, 108, 101, 116, 116, 101, 114, 115, 44, 32, 100, 105, 103, 105, 116, 115, 32, 97, 110, 100, 32, 104, 121, 112, 104, 101, 110, 115, 44, 32, 115, 116, 97, 114, 116, 105, 110, 103, 32, 97, 110, 100, 32, 101, 110, 100, 105, 110, 103, 32, 119, 105, 116, 104, 32, 97, 32, 108, 101, 116, 116, 101, 114, 32, 111, 114, 32, 97, 32, 100, 105, 103, 105, 116]⟩ 3).run Tryf.prog w = .ok [(0, 113, false), (1, 115, false), (2, 100, false)] w := by kernel_rfl

def shape3 : List UInt8 := 5 :: [3, 0, 0, 0, 0, 0, 0, 0, 105, 110, 116]
def shape21 : List UInt8 := 4 :: [5, 0, 0, 0, 0, 0, 0, 0, 105, 110, 116, 51, 50]
def shape9 : List UInt8 := 12 :: [6, 0, 0, 0, 0, 0, 0, 0, 115, 116, 114, 105, 110, 103]
theorem op3 (name : String) (b : Bool) (x : Int) (w : World) : (FmtStop.operand name b 100 false (.iface 3 (.int .i64 x))).run Tryf.prog w = .ok (shape3, Go.Extern.Stop.digits 8 (x % 2 ^ 64).toNat) w := by cases b <;> kernel_rfl
theorem op21 (name : String) (b : Bool) (x : Int) (w : World) : (FmtStop.operand name b 113 false (.iface 21 (.int .i32 x))).run Tryf.prog w = .ok (shape21, Go.Extern.Stop.digits 8 (x % 2 ^ 64).toNat) w := by cases b <;> kernel_rfl
theorem op9q (name : String) (b : Bool) (x : ByteArray) (w : World) : (FmtStop.operand name b 113 false (.iface 9 (.string x))).run Tryf.prog w = .ok (shape9, FmtStop.pack x.data.toList) w := by cases b <;> kernel_rfl
theorem op9s (name : String) (b : Bool) (x : ByteArray) (w : World) : (FmtStop.operand name b 115 false (.iface 9 (.string x))).run Tryf.prog w = .ok (shape9, FmtStop.pack x.data.toList) w := by cases b <;> kernel_rfl
theorem ptr32 (w : World) : (FmtStop.ptrTo "errors.errorString").run Tryf.prog w = .ok 32 w := by kernel_rfl
theorem elem32 (w : World) : (elemOf 32).run Tryf.prog w = .ok 34 w := by kernel_rfl
theorem isError32 (w : World) : (FmtDoors.textMethod 32 "Error").run Tryf.prog w = .ok true w := by kernel_rfl

end Go.Proofs.Qxb6630568aFmt
