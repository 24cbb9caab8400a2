/-
  THE WALK of FnReadQuantileRefusesWhatIsNotItsShape: the early ways.
-/
import Derived.Test.Qxb6612892aFmtTop
namespace Go.Proofs.Qxb6612892aFmt
open Go.RowKit
open Go.Extern.Stop Go.Stop Go.Extern
set_option linter.unusedVariables false

set_option maxRecDepth 100000 in
set_option maxHeartbeats 1000000 in
theorem w4early (n wi a v bA bE q : Int) (s : ByteArray) (w : World) (hs : s.size ≤ maxLen)
    (h : 65536 < s.size) :
    Calls Tryf.prog 4 #[.int .u64 n, .int .u64 wi, .int .i64 a, .int .u64 v, .string s, .int .i64 bA, .int .i64 bE, .int .u64 q] w fun e w' => e = .returned (.bool true) ∧ Kp [] w w' := by
  go_enter Tryf.func4, Tryf.ntmps4
  go_wp2_with (go_at_call 10; refine (c10 s _ _ _ _ _ _ _ _ hs).mono ?_; rintro e w' ⟨⟨r, rfl⟩, rfl⟩; cases r)
  all_goals (go_ret; exact ⟨rfl, Kp.refl _ _⟩)

set_option maxRecDepth 100000 in
set_option maxHeartbeats 1000000 in
theorem w4out (n wi a v bA bE q : Int) (s : ByteArray) (w : World) (hs : s.size ≤ 65536)
    (h : bA < 0 ∨ bE < bA ∨ (s.size : Int) < bE) :
    Calls Tryf.prog 4 #[.int .u64 n, .int .u64 wi, .int .i64 a, .int .u64 v, .string s, .int .i64 bA, .int .i64 bE, .int .u64 q] w fun e w' => e = .returned (.bool true) ∧ Kp [] w w' := by
  by_cases h1 : bA < 0
  · go_enter Tryf.func4, Tryf.ntmps4
    go_wp2_with (go_at_call 10; refine (c10s s _ _ _ _ _ _ _ _ hs).mono ?_; rintro e w' ⟨rfl, rfl⟩)
    all_goals (go_ret; exact ⟨rfl, Kp.refl _ _⟩)
  · by_cases h2 : bE < bA
    · go_enter Tryf.func4, Tryf.ntmps4
      go_wp2_with (go_at_call 10; refine (c10s s _ _ _ _ _ _ _ _ hs).mono ?_; rintro e w' ⟨rfl, rfl⟩)
      all_goals (go_ret; exact ⟨rfl, Kp.refl _ _⟩)
    · have h3 : (s.size : Int) < bE := by omega
      go_enter Tryf.func4, Tryf.ntmps4
      go_wp2_with (go_at_call 10; refine (c10s s _ _ _ _ _ _ _ _ hs).mono ?_; rintro e w' ⟨rfl, rfl⟩)
      all_goals (go_ret; exact ⟨rfl, Kp.refl _ _⟩)

set_option maxRecDepth 100000 in
set_option maxHeartbeats 1000000 in
theorem w4out2 (n wi a v bA bE q : Int) (s : ByteArray) (w : World) (hs : s.size ≤ 65536)
    (h1 : 0 ≤ bA) (h2 : bA ≤ bE) (h3 : bE ≤ (s.size : Int)) (h : n = 0 ∨ a < 0) :
    Calls Tryf.prog 4 #[.int .u64 n, .int .u64 wi, .int .i64 a, .int .u64 v, .string s, .int .i64 bA, .int .i64 bE, .int .u64 q] w fun e w' => e = .returned (.bool true) ∧ Kp [] w w' := by
  by_cases h4 : n = 0
  · have h5 : (n == 0) = true := beq_iff_eq.2 h4
    clear h4 h
    go_enter Tryf.func4, Tryf.ntmps4
    go_wp2_with (go_at_call 10; refine (c10s s _ _ _ _ _ _ _ _ hs).mono ?_; rintro e w' ⟨rfl, rfl⟩)
    all_goals (go_ret; exact ⟨rfl, Kp.refl _ _⟩)
  · have h5 : (n == 0) = false := beq_eq_false_iff_ne.2 h4
    have h6 : a < 0 := by omega
    clear h4 h
    go_enter Tryf.func4, Tryf.ntmps4
    go_wp2_with (go_at_call 10; refine (c10s s _ _ _ _ _ _ _ _ hs).mono ?_; rintro e w' ⟨rfl, rfl⟩)
    all_goals (go_ret; exact ⟨rfl, Kp.refl _ _⟩)

set_option maxRecDepth 100000 in
set_option maxHeartbeats 1000000 in
theorem w4out3 (n wi a v bA bE q : Int) (s : ByteArray) (w : World) (hs : s.size ≤ 65536)
    (h1 : 0 ≤ bA) (h2 : bA ≤ bE) (h3 : bE ≤ (s.size : Int)) (hn : (n == 0) = false) (ha : 0 ≤ a) (g0 : (wi != 0) = true) (g1 : (wi != 1) = true) (g5 : (wi != 5) = true) :
    Calls Tryf.prog 4 #[.int .u64 n, .int .u64 wi, .int .i64 a, .int .u64 v, .string s, .int .i64 bA, .int .i64 bE, .int .u64 q] w fun e w' => e = .returned (.bool true) ∧ Kp [] w w' := by
  go_enter Tryf.func4, Tryf.ntmps4
  go_wp2_with (go_at_call 10; refine (c10s s _ _ _ _ _ _ _ _ hs).mono ?_; rintro e w' ⟨rfl, rfl⟩)
  all_goals (go_ret; exact ⟨rfl, Kp.refl _ _⟩)

end Go.Proofs.Qxb6612892aFmt
