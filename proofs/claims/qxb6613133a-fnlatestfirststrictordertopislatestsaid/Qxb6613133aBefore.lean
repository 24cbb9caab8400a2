/-
  THE CONTRACT of ZZLatestFirstBefore.
-/
import Derived.Test.Qxb6613133aRows
import Derived.Test.Qxb6613133aMem
import Derived.WalkLawsBesides
import Derived.BigQuiet
import Derived.BigRegion
import Derived.RegionTactic
namespace Go.Proofs.Qxb6613133a
open Go.RowKit
set_option linter.unusedVariables false

set_option maxRecDepth 100000 in
set_option maxHeartbeats 1000000 in
theorem c8 (a b : Int) (w : World) :
    Calls Try.prog 8 #[.int .i64 a, .int .i64 b] w fun e w' => e = .returned (.bool (decide (b < a))) ∧ Kp [] w w' := by
  go_enter Try.func8, Try.ntmps8
  go_wp2
  go_ret
  exact ⟨rfl, by repeat (first | apply Kp.alloc | exact Kp.refl _ _)⟩

end Go.Proofs.Qxb6613133a
