/-
  THE PLAIN LAW: what an exclusive or of eight bytes tells.
-/
import Derived.Test.Qxb6613208aDoorTz
import Derived.Laws.Bits64
namespace Go.Proofs.Qxb6613208aDoor
open Go.RowKit
set_option linter.unusedVariables false

/-- n bytes from i on, the least first -/
def leN (f : Nat → Nat) (i : Nat) : Nat → Nat
  | 0 => 0
  | n + 1 => f i + 256 * leN f (i + 1) n

theorem le8_leN (f : Nat → Nat) (i : Nat) : le8 f i = leN f i 8 := by
  simp only [le8, le4, leN, Nat.add_assoc, Nat.reduceAdd]
  omega

theorem leN_low (f g : Nat → Nat) (hf : ∀ k, f k < 256) (hg : ∀ k, g k < 256) : ∀ (n m i j : Nat), m ≤ n → leN f i n % 256 ^ m = leN g j n % 256 ^ m → ∀ k, k < m → f (i + k) = g (j + k)
  | _, 0, _, _, _, _ => fun k hk => by omega
  | 0, m + 1, _, _, h, _ => by omega
  | n + 1, m + 1, i, j, h, e => by
    simp only [leN] at e
    rw [Nat.pow_succ, Nat.mul_comm (256 ^ m) 256, Nat.mod_mul, Nat.mod_mul] at e
    have a := hf i
    have b := hg j
    have e1 : (f i + 256 * leN f (i + 1) n) % 256 = f i := by omega
    have e2 : (g j + 256 * leN g (j + 1) n) % 256 = g j := by omega
    have e3 : (f i + 256 * leN f (i + 1) n) / 256 = leN f (i + 1) n := by omega
    have e4 : (g j + 256 * leN g (j + 1) n) / 256 = leN g (j + 1) n := by omega
    rw [e1, e2, e3, e4] at e
    have ih := leN_low f g hf hg n m (i + 1) (j + 1) (by omega) (by omega)
    intro k hk
    match k with
    | 0 => simp only [Nat.add_zero]; omega
    | k + 1 =>
      have := ih k (by omega)
      rw [show i + (k + 1) = i + 1 + k by omega, show j + (k + 1) = j + 1 + k by omega]
      exact this

theorem ctz_low (x : Nat) (h0 : x ≠ 0) (hx : x < 18446744073709551616) : Lib.ctz 64 x < 64 ∧ x % 256 ^ (Lib.ctz 64 x / 8) = 0 := by
  obtain ⟨m, hm, hk⟩ := Lib.ctzFrom_spec 64 x (by omega) hx
  have e : Lib.ctz 64 x = Lib.ctzFrom 64 x := by simp [Lib.ctz, h0]
  rw [e]
  refine ⟨hk, ?_⟩
  obtain ⟨k, hkk⟩ : ∃ k, k = Lib.ctzFrom 64 x := ⟨_, rfl⟩
  rw [← hkk] at hm ⊢
  have e2 : 2 ^ k = 256 ^ (k / 8) * 2 ^ (k % 8) := by
    rw [show (256 : Nat) = 2 ^ 8 by rfl, ← Nat.pow_mul, ← Nat.pow_add]
    congr 1
    omega
  rw [hm, e2, Nat.mul_assoc]
  exact Nat.mul_mod_right _ _

theorem xor_zero {a b : Nat} (h : a ^^^ b = 0) : a = b := by
  apply Nat.eq_of_testBit_eq
  intro i
  have e : (a ^^^ b).testBit i = false := by rw [h]; exact Nat.zero_testBit i
  rw [Nat.testBit_xor] at e
  revert e
  cases a.testBit i <;> cases b.testBit i <;> simp

/-- the bytes below the first that differs -/
theorem xor_low (f : Nat → Nat) (hf : ∀ k, f k < 256) (i j X : Nat) (hX : le8 f i ^^^ le8 f j = X) (h0 : X ≠ 0) (hx : X < 18446744073709551616) :
    Lib.ctz 64 X < 64 ∧ ∀ k, k < Lib.ctz 64 X / 8 → f (i + k) = f (j + k) := by
  obtain ⟨h1, h2⟩ := ctz_low X h0 hx
  refine ⟨h1, leN_low f f hf hf 8 _ i j (by omega) ?_⟩
  rw [← le8_leN, ← le8_leN]
  generalize Lib.ctz 64 X / 8 = m at h2 ⊢
  rw [← hX, show (256 : Nat) = 2 ^ 8 by rfl, ← Nat.pow_mul, Nat.xor_mod_two_pow] at h2
  rw [show (256 : Nat) = 2 ^ 8 by rfl, ← Nat.pow_mul]
  exact xor_zero h2

theorem xor_all (f : Nat → Nat) (hf : ∀ k, f k < 256) (i j : Nat) (hX : le8 f i ^^^ le8 f j = 0) : ∀ k, k < 8 → f (i + k) = f (j + k) := by
  refine leN_low f f hf hf 8 8 i j (by omega) ?_
  rw [← le8_leN, ← le8_leN, xor_zero hX]

theorem le8_lt (f : Nat → Nat) (i : Nat) (h : ∀ k, f k < 256) : le8 f i < 18446744073709551616 := by
  have := le4_lt f i h
  have := le4_lt f (i + 4) h
  unfold le8
  omega

end Go.Proofs.Qxb6613208aDoor
