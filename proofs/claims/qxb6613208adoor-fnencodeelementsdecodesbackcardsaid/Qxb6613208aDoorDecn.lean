/-
  zzDecodesTo where there is nothing.
-/
import Derived.Test.Qxb6613208aDoorDec
namespace Go.Proofs.Qxb6613208aDoor
open Go.RowKit
set_option linter.unusedVariables false

set_option maxHeartbeats 4000000 in
set_option maxRecDepth 100000 in
/-- zzDecodesTo, nothing to nothing -/
theorem c8n (a : Option Addr) (c : Nat) (w : World) :
    Calls Tryd.prog 8 #[.slice a 0 c, .slice none 0 0, .int .i64 0] w fun e w' => e = .returned (.bool true) ∧ Kp [] w w' := by
  obtain ⟨wz, hrun, z1, z2, z3, z4⟩ := made 0 w (by omega)
  have HK : Hid (Kp [] w wz) := z3
  clear z1 z2 z3 z4
  rw [show ((0 : Nat) : Int) = 0 from rfl] at hrun
  go_enter Tryd.func8, Tryd.ntmps8
  go_wp2_with fail
  clear hrun

  go_loop [8] (fun kv => kv = .int .i64 0) (fun _ => 0)
  case atStart => rfl
  case round =>
    subst hrel
    go_wp2_with fail
    go_loop [9, 10] (fun pv qv => pv = .int .i64 0 ∧ qv = .int .i64 0) (fun _ _ => 0)
    case atStart => exact ⟨rfl, rfl⟩
    case round =>
      obtain ⟨rfl, rfl⟩ := hrel
      go_wp2_with fail
      go_loop [23] (fun kv => kv = .int .i64 0) (fun _ => 0)
      case atStart => rfl
      case round =>
        subst hrel
        go_wp2_with fail
        go_ret
        exact ⟨rfl, HK.out⟩

end Go.Proofs.Qxb6613208aDoor
