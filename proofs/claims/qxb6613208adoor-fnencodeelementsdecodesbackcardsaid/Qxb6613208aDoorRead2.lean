/-
  THE CONTRACT of the laws' reader zzCopyOf.
-/
import Derived.Test.Qxb6613208aDoorRead
namespace Go.Proofs.Qxb6613208aDoor
open Go.RowKit
set_option linter.unusedVariables false

theorem results_tmp4 {fn : Func} {t u v x : Tmp} (h : fn.results = #[.tmp t, .tmp u, .tmp v, .tmp x]) (tmps : Array Value) (P : Program) (w : World) :
    (results fn tmps).run P w = .ok (.tuple #[tmps.getD t undef, tmps.getD u undef, tmps.getD v undef, tmps.getD x undef]) w := by
  simp [results, h]

theorem and7 : ∀ m : Fin 64, bits .and .i64 (m.val : Int) 7 = (m.val : Int) % 8 := by decide +kernel

theorem wraps_i64 (n : Int) (h₀ : 0 ≤ n) (h₁ : n < 2 ^ 63) : IntKind.i64.wrap n = n := by rw [IntWalk.i64_left, IntWalk.wrap64_in _ (by omega)]

set_option maxHeartbeats 4000000 in
set_option maxRecDepth 100000 in
theorem c11a (b d0 L c q m n : Nat) (B : Nat → Nat) (w : World) (hR : Row w b n B) (hm : m < 64) (hL : q + 2 ≤ L) (hn : d0 + L ≤ n) (hM : n ≤ 1048576) :
    Calls Tryd.prog 11 #[.slice (some ⟨b, d0, none⟩) L c, .int .i64 (q + 1 : Nat), .int .u8 1, .int .i64 m] w fun e w' => e = .returned (.tuple #[.int .i64 (4 + m % 8 : Nat), .int .i64 (m / 8 * 256 + B (d0 + (q + 1)) : Nat), .int .i64 (q + 2 : Nat), .bool true]) ∧ Kp [] w w' := by
  have c0 := hR.c (d0 + (q + 1)) (by omega)
  have r0 := hR.r (d0 + (q + 1))
  generalize B (d0 + (q + 1)) = y at c0 r0 ⊢
  have a7 := and7 ⟨m, hm⟩
  simp only at a7
  have o8 : bits .or .i64 ((m : Int) / 8 * 256) (y : Int) = (m : Int) / 8 * 256 + (y : Int) := bits_join .i64 63 (by decide) wraps_i64 8 _ _ (by omega) (by omega) (by omega) (by omega) (by omega) (by omega)
  have b0 : ((q + 1 : Nat) : Int) < (L : Int) := by omega
  have b1 : (0 : Int) ≤ ((q + 1 : Nat) : Int) := by omega
  clear hR
  go_enter Tryd.func11, Tryd.ntmps11
  go_wp2_with fail
  go_quiet (fail)
  go_wp2_with fail
  refine bodyPost_ret (results_tmp4 rfl _ _ _) rfl ⟨?_, (Kp.refl [] w).drewN _⟩
  go_num

set_option maxHeartbeats 4000000 in
set_option maxRecDepth 100000 in
theorem c11b (b d0 L c q m n : Nat) (B : Nat → Nat) (w : World) (hR : Row w b n B) (hm : m < 64) (hL : q + 3 ≤ L) (hn : d0 + L ≤ n) (hM : n ≤ 1048576) :
    Calls Tryd.prog 11 #[.slice (some ⟨b, d0, none⟩) L c, .int .i64 (q + 1 : Nat), .int .u8 2, .int .i64 m] w fun e w' => e = .returned (.tuple #[.int .i64 (m + 1 : Nat), .int .i64 (B (d0 + (q + 1)) + B (d0 + (q + 2)) * 256 : Nat), .int .i64 (q + 3 : Nat), .bool true]) ∧ Kp [] w w' := by
  have c0 := hR.c (d0 + (q + 1)) (by omega)
  have r0 := hR.r (d0 + (q + 1))
  have c1 := hR.c (d0 + (q + 2)) (by omega)
  have r1 := hR.r (d0 + (q + 2))
  generalize B (d0 + (q + 1)) = y at c0 r0 ⊢
  generalize B (d0 + (q + 2)) = z at c1 r1 ⊢
  have o8 : bits .or .i64 (y : Int) ((z : Int) * 256) = (y : Int) + (z : Int) * 256 := bits_join_low .i64 63 (by decide) wraps_i64 8 _ _ (by omega) (by omega) (by omega) (by omega) (by omega) (by omega)
  have b0 : ((q + 1 : Nat) : Int) < (L : Int) := by omega
  have b1 : (0 : Int) ≤ ((q + 1 : Nat) : Int) := by omega
  have b2 : ((q + 2 : Nat) : Int) < (L : Int) := by omega
  have ew : IntKind.i64.wrap (((q + 1 : Nat) : Int) + 1) = ((q + 2 : Nat) : Int) := by rw [IntWalk.i64_left, IntWalk.wrap64_in _ (by omega)]; omega
  clear hR
  go_enter Tryd.func11, Tryd.ntmps11
  go_wp2_with fail
  go_quiet (fail)
  go_wp2_with fail
  refine bodyPost_ret (results_tmp4 rfl _ _ _) rfl ⟨?_, (Kp.refl [] w).drewN _⟩
  go_num

/-- zzCopyOf, at a copy -/
theorem c11 (b d0 L c q l o r n kd m : Nat) (B : Nat → Nat) (w : World) (hR : Row w b n B) (hc : IsCopy B (d0 + q) l o (d0 + r)) (hk : B (d0 + q) % 4 = kd) (hm : B (d0 + q) / 4 = m) (hL : r ≤ L) (hn : d0 + L ≤ n) (hM : n ≤ 1048576) :
    Calls Tryd.prog 11 #[.slice (some ⟨b, d0, none⟩) L c, .int .i64 (q + 1 : Nat), .int .u8 kd, .int .i64 m] w fun e w' => e = .returned (.tuple #[.int .i64 l, .int .i64 o, .int .i64 r, .bool true]) ∧ Kp [] w w' := by
  obtain ⟨h1, h2, h3, h4, ⟨h5, h6, h7, h8, h9⟩ | ⟨h5, h6, h7, h8⟩⟩ := hc
  · have e1 : kd = 1 := by omega
    have h := c11a b d0 L c q m n B w hR (by omega) (by omega) hn hM
    rw [show d0 + (q + 1) = d0 + q + 1 by omega, h9, show 4 + m % 8 = l by omega, show m / 8 * 256 + o % 256 = o by omega, show q + 2 = r by omega] at h
    rw [e1]
    exact h
  · have e1 : kd = 2 := by omega
    have h := c11b b d0 L c q m n B w hR (by omega) (by omega) hn hM
    rw [show d0 + (q + 1) = d0 + q + 1 by omega, show d0 + (q + 2) = d0 + q + 2 by omega, h7, h8, show m + 1 = l by omega, show o % 256 + o / 256 * 256 = o by omega, show q + 3 = r by omega] at h
    rw [e1]
    exact h

end Go.Proofs.Qxb6613208aDoor
