/-
  THE CONTRACT of TrailingZeros64.
-/
import Derived.Test.Qxb6613208aDoorBase
import Derived.Test.Qxb6613208aDoorBin
import Derived.Lib.TrailingZeros
namespace Go.Proofs.Qxb6613208aDoor
open Go.RowKit
set_option linter.unusedVariables false

theorem tab_at : ∀ i, i < 64 → debruijn.getD i 0 = ((Lib.deBruijn64tab.getD i 0 : Nat) : Int) := by decide +kernel

set_option maxHeartbeats 4000000 in
set_option maxRecDepth 100000 in
/-- TrailingZeros64 -/
theorem c23 (x : Nat) (w : World) (h0 : x ≠ 0) (hx : x < 18446744073709551616) (hT : Tab w) :
    Calls Tryd.prog 23 #[.int .u64 x] w fun e w' => e = .returned (.int .i64 (Lib.ctz 64 x : Nat)) ∧ w' = w := by
  obtain ⟨l1, l2⟩ := Lib.lowest_bit 64 x h0 hx
  obtain ⟨k, hk⟩ : ∃ k : Nat, k = Lib.ctz 64 x := ⟨_, rfl⟩
  rw [← hk] at l1 l2 ⊢
  obtain ⟨d1, d2⟩ := Lib.deBruijn64_at k l2
  obtain ⟨A, hA⟩ : ∃ A : Nat, A = 2 ^ k := ⟨_, rfl⟩
  rw [← hA] at l1 d1 d2
  obtain ⟨M, hM⟩ : ∃ M : Nat, M = A * 285870213051353865 % 18446744073709551616 := ⟨_, rfl⟩
  rw [← hM] at d1 d2
  obtain ⟨J, hJ⟩ : ∃ J : Nat, J = M / 288230376151711744 := ⟨_, rfl⟩
  rw [← hJ] at d1 d2
  have hc := hT J d1
  rw [tab_at J d1, d2] at hc
  have e1 : bits .and .u64 (x : Int) (IntKind.u64.wrap (-(x : Int))) = (A : Int) := by
    rw [IntKind.wrap_u64, show (-(x : Int)) % 18446744073709551616 = ((18446744073709551616 - x : Nat) : Int) by omega]
    rw [(bits_nat .u64 64 (by decide) wraps_u64 x (18446744073709551616 - x) hx (by omega)).1]
    exact congrArg (fun n : Nat => (n : Int)) l1
  have e2 : IntKind.u64.wrap ((A : Int) * 285870213051353865) = (M : Int) := by rw [IntKind.wrap_u64]; omega
  have e3 : (M : Int) / 288230376151711744 = (J : Int) := by omega
  have e4 : (J : Int) < 64 := by omega
  have hx0 : ((x : Int) == 0) = false := by simp; omega
  clear hk l1 d2 hA hM hJ h0 hT
  go_enter Tryd.func23, Tryd.ntmps23
  go_wp2
  go_ret
  exact ⟨rfl, rfl⟩

end Go.Proofs.Qxb6613208aDoor
