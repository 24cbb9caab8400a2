/-
  THE CLOSED FACTS FOR A WALK OVER fmt's STOPPED FRONT AT THIS PROGRAM's NUMBERS (after the pattern of the kit's generated Fmt texts), and the two entries of package math.
-/
import Derived.Test.Qxb6612892aFmtProg
import Derived.Stop.CallBack
import Derived.Stop.IfaceNil
import GoSem.ClaimData
namespace Go.Proofs
open Go.Extern.Stop Go.Stop Go.Extern

theorem Tryf.call22 (args : Array Value) (w : World) : (callFunc 22 args).run Tryf.prog w = ((FmtStop.sprintf #[9, 80] #[9] args).run Tryf.prog w).andThen fun v w' => .ok (.value v) w' :=
  run_callFunc_extern Tryf.func22 (by kernel_rfl) (by kernel_rfl) (by kernel_rfl) (by kernel_rfl) args w

theorem Tryf.guard (name : String) (w : World) : (FmtStop.guard name).run Tryf.prog w = .ok () w := by kernel_rfl

theorem Tryf.fmt0 : FmtStop.printed? ⟨#[102, 105, 101, 108, 100, 32, 37, 100, 32, 105, 115, 32, 101, 110, 99, 111, 100, 101, 100, 32, 119, 105, 116, 104, 32, 119, 105, 114, 101, 32, 116, 121, 112, 101, 32, 37, 100, 44, 32, 119, 104, 105, 99, 104, 32, 100, 111, 101, 115, 32, 110, 111, 116, 32, 102, 105, 116, 32, 105, 116, 115, 32, 116, 121, 112, 101]⟩ 2 = some [(0, 100, false), (1, 100, false)] := by kernel_rfl
theorem Tryf.fmt0r (w : World) : (FmtDoors.printed ⟨#[102, 105, 101, 108, 100, 32, 37, 100, 32, 105, 115, 32, 101, 110, 99, 111, 100, 101, 100, 32, 119, 105, 116, 104, 32, 119, 105, 114, 101, 32, 116, 121, 112, 101, 32, 37, 100, 44, 32, 119, 104, 105, 99, 104, 32, 100, 111, 101, 115, 32, 110, 111, 116, 32, 102, 105, 116, 32, 105, 116, 115, 32, 116, 121, 112, 101]⟩ 2).run Tryf.prog w = .ok [(0, 100, false), (1, 100, false)] w := by kernel_rfl
theorem Tryf.fmt1 : FmtStop.printed? ⟨#[105, 110, 118, 97, 108, 105, 100, 32, 102, 105, 101, 108, 100, 32, 110, 117, 109, 98, 101, 114, 32, 37, 100]⟩ 1 = some [(0, 100, false)] := by kernel_rfl
theorem Tryf.fmt1r (w : World) : (FmtDoors.printed ⟨#[105, 110, 118, 97, 108, 105, 100, 32, 102, 105, 101, 108, 100, 32, 110, 117, 109, 98, 101, 114, 32, 37, 100]⟩ 1).run Tryf.prog w = .ok [(0, 100, false)] w := by kernel_rfl
theorem Tryf.fmt2 : FmtStop.printed? ⟨#[102, 105, 101, 108, 100, 32, 37, 100, 32, 105, 115, 32, 101, 110, 99, 111, 100, 101, 100, 32, 119, 105, 116, 104, 32, 119, 105, 114, 101, 32, 116, 121, 112, 101, 32, 37, 100, 44, 32, 119, 104, 105, 99, 104, 32, 109, 101, 116, 114, 105, 99, 115, 46, 112, 114, 111, 116, 111, 32, 100, 111, 101, 115, 32, 110, 111, 116, 32, 117, 115, 101]⟩ 2 = some [(0, 100, false), (1, 100, false)] := by kernel_rfl
theorem Tryf.fmt2r (w : World) : (FmtDoors.printed ⟨#[102, 105, 101, 108, 100, 32, 37, 100, 32, 105, 115, 32, 101, 110, 99, 111, 100, 101, 100, 32, 119, 105, 116, 104, 32, 119, 105, 114, 101, 32, 116, 121, 112, 101, 32, 37, 100, 44, 32, 119, 104, 105, 99, 104, 32, 109, 101, 116, 114, 105, 99, 115, 46, 112, 114, 111, 116, 111, 32, 100, 111, 101, 115, 32, 110, 111, 116, 32, 117, 115, 101]⟩ 2).run Tryf.prog w = .ok [(0, 100, false), (1, 100, false)] w := by kernel_rfl
theorem Tryf.fmt3 : FmtStop.printed? ⟨#[116, 114, 117, 110, 99, 97, 116, 101, 100, 58, 32, 97, 32, 102, 105, 120, 101, 100, 45, 115, 105, 122, 101, 32, 118, 97, 108, 117, 101, 32, 111, 102, 32, 37, 100, 32, 98, 121, 116, 101, 115, 44, 32, 119, 105, 116, 104, 32, 37, 100, 32, 98, 121, 116, 101, 115, 32, 108, 101, 102, 116]⟩ 2 = some [(0, 100, false), (1, 100, false)] := by kernel_rfl
theorem Tryf.fmt3r (w : World) : (FmtDoors.printed ⟨#[116, 114, 117, 110, 99, 97, 116, 101, 100, 58, 32, 97, 32, 102, 105, 120, 101, 100, 45, 115, 105, 122, 101, 32, 118, 97, 108, 117, 101, 32, 111, 102, 32, 37, 100, 32, 98, 121, 116, 101, 115, 44, 32, 119, 105, 116, 104, 32, 37, 100, 32, 98, 121, 116, 101, 115, 32, 108, 101, 102, 116]⟩ 2).run Tryf.prog w = .ok [(0, 100, false), (1, 100, false)] w := by kernel_rfl
theorem Tryf.fmt4 : FmtStop.printed? ⟨#[116, 114, 117, 110, 99, 97, 116, 101, 100, 58, 32, 97, 32, 108, 101, 110, 103, 116, 104, 32, 111, 102, 32, 37, 100, 32, 98, 121, 116, 101, 115, 44, 32, 119, 105, 116, 104, 32, 37, 100, 32, 98, 121, 116, 101, 115, 32, 108, 101, 102, 116]⟩ 2 = some [(0, 100, false), (1, 100, false)] := by kernel_rfl
theorem Tryf.fmt4r (w : World) : (FmtDoors.printed ⟨#[116, 114, 117, 110, 99, 97, 116, 101, 100, 58, 32, 97, 32, 108, 101, 110, 103, 116, 104, 32, 111, 102, 32, 37, 100, 32, 98, 121, 116, 101, 115, 44, 32, 119, 105, 116, 104, 32, 37, 100, 32, 98, 121, 116, 101, 115, 32, 108, 101, 102, 116]⟩ 2).run Tryf.prog w = .ok [(0, 100, false), (1, 100, false)] w := by kernel_rfl

def Tryf.shape22 : List UInt8 := [9, 6, 0, 0, 0, 0, 0, 0, 0, 117, 105, 110, 116, 54, 52]
def Tryf.shape31 : List UInt8 := [9, 18, 0, 0, 0, 0, 0, 0, 0, 108, 97, 98, 101, 108, 119, 105, 115, 101, 46, 119, 105, 114, 101, 84, 121, 112, 101]
def Tryf.shape3 : List UInt8 := [5, 3, 0, 0, 0, 0, 0, 0, 0, 105, 110, 116]
theorem Tryf.op22_100 (name : String) (x : Int) (w : World) : (FmtStop.operand name false 100 false (.iface 22 (.int .u64 x))).run Tryf.prog w = .ok (Tryf.shape22, Go.Extern.Stop.digits 8 (x % 2 ^ 64).toNat) w := by kernel_rfl
theorem Tryf.op31_100 (name : String) (x : Int) (w : World) : (FmtStop.operand name false 100 false (.iface 31 (.int .u64 x))).run Tryf.prog w = .ok (Tryf.shape31, Go.Extern.Stop.digits 8 (x % 2 ^ 64).toNat) w := by kernel_rfl
theorem Tryf.op3_100 (name : String) (x : Int) (w : World) : (FmtStop.operand name false 100 false (.iface 3 (.int .i64 x))).run Tryf.prog w = .ok (Tryf.shape3, Go.Extern.Stop.digits 8 (x % 2 ^ 64).toNat) w := by kernel_rfl

/-- package math's two: an entry of the model's -/
theorem Tryf.call20' (args : Array Value) (w : World) : (callFunc 20 args).run Tryf.prog w = ((MathFloatBits.float64frombits args).run Tryf.prog w).andThen fun v w' => .ok (.value v) w' :=
  run_callFunc_extern Tryf.func20 (by kernel_rfl) (by kernel_rfl) (by kernel_rfl) (by kernel_rfl) args w
theorem Tryf.call20 (n : Int) (w : World) : (callFunc 20 #[.int .u64 n]).run Tryf.prog w = .ok (.value (.float .f64 n.toNat)) w := by
  rw [Tryf.call20']; rfl
theorem Tryf.call11' (args : Array Value) (w : World) : (callFunc 11 args).run Tryf.prog w = ((MathFloatBits.float64bits args).run Tryf.prog w).andThen fun v w' => .ok (.value v) w' :=
  run_callFunc_extern Tryf.func11 (by kernel_rfl) (by kernel_rfl) (by kernel_rfl) (by kernel_rfl) args w
theorem Tryf.call11 (b : Nat) (w : World) : (callFunc 11 #[.float .f64 b]).run Tryf.prog w = .ok (.value (.int .u64 (b : Int))) w := by
  rw [Tryf.call11']; rfl

end Go.Proofs
