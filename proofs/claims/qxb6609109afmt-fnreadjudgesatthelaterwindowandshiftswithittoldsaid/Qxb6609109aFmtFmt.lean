/-
  THE CLOSED FACTS FOR A WALK OVER fmt.errorf (a plain stop) AT THIS DUMP: after the guide's worked CheckFmt and ShowFmt, turned to this program's numbers, formats and operand types. Each by the kernel's own evaluation.
-/
import Derived.Test.Qxb6609109aFmtProg
import Derived.Stop.CallBack
import Derived.Stop.IfaceNil
import GoSem.ClaimData
namespace Go.Proofs.Qxb6609109aFmt
open Go.Extern.Stop Go.Stop Go.Extern

-- fmt.errorf: function 25: a plain stop
theorem call25 (args : Array Value) (w : World) : (callFunc 25 args).run Tryf.prog w = ((FmtStop.errorf #[9, 74] #[36] args).run Tryf.prog w).andThen fun v w' => .ok (.value v) w' :=
  run_callFunc_extern Tryf.func25 (by kernel_rfl) (by kernel_rfl) (by kernel_rfl) (by kernel_rfl) args w
theorem guard (name : String) (w : World) : (FmtStop.guard name).run Tryf.prog w = .ok () w := by kernel_rfl
-- format 0
theorem fmt0 : FmtStop.printed? ⟨#[37, 100, 32, 119, 111, 114, 100, 115, 32, 102, 111, 114, 32, 97, 32, 119, 105, 110, 100, 111, 119, 39, 115, 32, 99, 111, 117, 110, 116, 44, 32, 119, 104, 105, 99, 104, 32, 105, 115, 32, 116, 104, 114, 101, 101]⟩ 1 = some [(0, 100, false)] := by kernel_rfl
theorem fmt0r (w : World) : (FmtDoors.printed ⟨#[37, 100, 32, 119, 111, 114, 100, 115, 32, 102, 111, 114, 32, 97, 32, 119, 105, 110, 100, 111, 119, 39, 115, 32, 99, 111, 117, 110, 116, 44, 32, 119, 104, 105, 99, 104, 32, 105, 115, 32, 116, 104, 114, 101, 101]⟩ 1).run Tryf.prog w = .ok [(0, 100, false)] w := by kernel_rfl
-- format 1
theorem fmt1 : FmtStop.printed? ⟨#[119, 105, 110, 100, 111, 119, 32, 110, 117, 109, 98, 101, 114, 32, 37, 118, 44, 32, 119, 104, 105, 99, 104, 32, 105, 115, 32, 110, 111, 116, 32, 97, 110, 32, 105, 110, 116, 54, 52]⟩ 1 = some [(0, 118, false)] := by kernel_rfl
theorem fmt1r (w : World) : (FmtDoors.printed ⟨#[119, 105, 110, 100, 111, 119, 32, 110, 117, 109, 98, 101, 114, 32, 37, 118, 44, 32, 119, 104, 105, 99, 104, 32, 105, 115, 32, 110, 111, 116, 32, 97, 110, 32, 105, 110, 116, 54, 52]⟩ 1).run Tryf.prog w = .ok [(0, 118, false)] w := by kernel_rfl
-- format 2
theorem fmt2 : FmtStop.printed? ⟨#[99, 111, 117, 110, 116, 115, 32, 37, 118, 32, 97, 110, 100, 32, 37, 118, 44, 32, 97, 98, 111, 118, 101, 32, 116, 104, 101, 32, 67, 111, 117, 110, 116, 32, 111, 102, 32, 37, 100]⟩ 3 = some [(0, 118, false), (1, 118, false), (2, 100, false)] := by kernel_rfl
theorem fmt2r (w : World) : (FmtDoors.printed ⟨#[99, 111, 117, 110, 116, 115, 32, 37, 118, 32, 97, 110, 100, 32, 37, 118, 44, 32, 97, 98, 111, 118, 101, 32, 116, 104, 101, 32, 67, 111, 117, 110, 116, 32, 111, 102, 32, 37, 100]⟩ 3).run Tryf.prog w = .ok [(0, 118, false), (1, 118, false), (2, 100, false)] w := by kernel_rfl
def shape3 : List UInt8 := [5, 3, 0, 0, 0, 0, 0, 0, 0, 105, 110, 116]
def shape2 : List UInt8 := [5, 5, 0, 0, 0, 0, 0, 0, 0, 105, 110, 116, 54, 52]
def shape63 : List UInt8 := [18, 11, 0, 0, 0, 0, 0, 0, 0, 118, 97, 108, 118, 46, 105, 110, 116, 49, 50, 56, 2, 0, 0, 0, 0, 0, 0, 0, 0, 2, 0, 0, 0, 0, 0, 0, 0, 104, 105, 0, 0, 0, 0, 0, 0, 0, 0, 5, 5, 0, 0, 0, 0, 0, 0, 0, 105, 110, 116, 54, 52, 0, 2, 0, 0, 0, 0, 0, 0, 0, 108, 111, 0, 0, 0, 0, 0, 0, 0, 0, 9, 6, 0, 0, 0, 0, 0, 0, 0, 117, 105, 110, 116, 54, 52]
def shape32 : List UInt8 := [18, 11, 0, 0, 0, 0, 0, 0, 0, 114, 101, 109, 111, 116, 101, 46, 87, 111, 114, 100, 2, 0, 0, 0, 0, 0, 0, 0, 0, 2, 0, 0, 0, 0, 0, 0, 0, 72, 105, 0, 0, 0, 0, 0, 0, 0, 0, 9, 6, 0, 0, 0, 0, 0, 0, 0, 117, 105, 110, 116, 54, 52, 0, 2, 0, 0, 0, 0, 0, 0, 0, 76, 111, 0, 0, 0, 0, 0, 0, 0, 0, 9, 6, 0, 0, 0, 0, 0, 0, 0, 117, 105, 110, 116, 54, 52]
theorem op3_100w (name : String) (x : Int) (w : World) : (FmtStop.operand name true 100 false (.iface 3 (.int .i64 x))).run Tryf.prog w = .ok (shape3, Go.Extern.Stop.digits 8 (x % 2 ^ 64).toNat) w := by kernel_rfl
theorem op3_100 (name : String) (x : Int) (w : World) : (FmtStop.operand name false 100 false (.iface 3 (.int .i64 x))).run Tryf.prog w = .ok (shape3, Go.Extern.Stop.digits 8 (x % 2 ^ 64).toNat) w := by kernel_rfl
theorem op2_100w (name : String) (x : Int) (w : World) : (FmtStop.operand name true 100 false (.iface 2 (.int .i64 x))).run Tryf.prog w = .ok (shape2, Go.Extern.Stop.digits 8 (x % 2 ^ 64).toNat) w := by kernel_rfl
theorem op2_100 (name : String) (x : Int) (w : World) : (FmtStop.operand name false 100 false (.iface 2 (.int .i64 x))).run Tryf.prog w = .ok (shape2, Go.Extern.Stop.digits 8 (x % 2 ^ 64).toNat) w := by kernel_rfl
theorem op63_118w (name : String) (x0 : Int) (x1 : Int) (w : World) : (FmtStop.operand name true 118 false (.iface 63 (.agg #[.int .i64 x0, .int .u64 x1]))).run Tryf.prog w = .ok (shape63, Go.Extern.Stop.digits 8 (x0 % 2 ^ 64).toNat ++ (Go.Extern.Stop.digits 8 (x1 % 2 ^ 64).toNat ++ ([]))) w := by kernel_rfl
theorem op63_118 (name : String) (x0 : Int) (x1 : Int) (w : World) : (FmtStop.operand name false 118 false (.iface 63 (.agg #[.int .i64 x0, .int .u64 x1]))).run Tryf.prog w = .ok (shape63, Go.Extern.Stop.digits 8 (x0 % 2 ^ 64).toNat ++ (Go.Extern.Stop.digits 8 (x1 % 2 ^ 64).toNat ++ ([]))) w := by kernel_rfl
theorem op32_118w (name : String) (x0 : Int) (x1 : Int) (w : World) : (FmtStop.operand name true 118 false (.iface 32 (.agg #[.int .u64 x0, .int .u64 x1]))).run Tryf.prog w = .ok (shape32, Go.Extern.Stop.digits 8 (x0 % 2 ^ 64).toNat ++ (Go.Extern.Stop.digits 8 (x1 % 2 ^ 64).toNat ++ ([]))) w := by kernel_rfl
theorem op32_118 (name : String) (x0 : Int) (x1 : Int) (w : World) : (FmtStop.operand name false 118 false (.iface 32 (.agg #[.int .u64 x0, .int .u64 x1]))).run Tryf.prog w = .ok (shape32, Go.Extern.Stop.digits 8 (x0 % 2 ^ 64).toNat ++ (Go.Extern.Stop.digits 8 (x1 % 2 ^ 64).toNat ++ ([]))) w := by kernel_rfl
-- the error types that fmt.errorf makes
theorem ptr80 (w : World) : (FmtStop.ptrTo "errors.errorString").run Tryf.prog w = .ok 80 w := by kernel_rfl
theorem elem80 (w : World) : (elemOf 80).run Tryf.prog w = .ok 82 w := by kernel_rfl
theorem ptr76 (w : World) : (FmtStop.ptrTo "fmt.wrapError").run Tryf.prog w = .ok 76 w := by kernel_rfl
end Go.Proofs.Qxb6609109aFmt
