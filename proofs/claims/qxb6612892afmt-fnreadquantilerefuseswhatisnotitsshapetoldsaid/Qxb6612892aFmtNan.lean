/-
  A NaN's bits: plain numbers.
-/
import Derived.Laws.BitsLemmas
import Derived.IntWalk
import GoSem.Core.Float
namespace Go.Proofs.Qxb6612892aFmt

/-- what isNaNBits answers -/
def nanB (b : Int) : Bool := (bits .and .u64 (b / 4503599627370496) 2047 == 2047) && (bits .and .u64 b 4503599627370495 != 0)

theorem u64_small (j : Nat) (hj : j ≤ 64) (n : Int) (h0 : 0 ≤ n) (h1 : n < 2 ^ j) : IntKind.u64.wrap n = n := by
  refine IntWalk.u64_in n ⟨h0, ?_⟩
  have : (2 : Int) ^ j ≤ 2 ^ 64 := by exact_mod_cast Nat.pow_le_pow_right (by decide) hj
  have e : (2 : Int) ^ 64 = 18446744073709551616 := by decide
  omega

theorem lt64 (x : Int) (h : x ≤ 18446744073709551615) : x < 2 ^ 64 := by
  have e : (2 : Int) ^ 64 = 18446744073709551616 := by decide
  omega

theorem mask_u64 (i : Nat) (hi : i ≤ 64) (x : Int) (h0 : 0 ≤ x) (h1 : x ≤ 18446744073709551615) : bits .and .u64 x (2 ^ i - 1) = x % 2 ^ i :=
  bits_mask .u64 64 (by decide) (fun n a b => u64_small 64 (by omega) n a b) i hi x h0 (lt64 x h1)

theorem nan_order (b : Int) (h0 : 0 ≤ b) (h1 : b ≤ 18446744073709551615) (h : nanB b = true) : FloatKind.f64.format.order b.toNat b.toNat = none := by
  unfold nanB at h
  simp only [Bool.and_eq_true, beq_iff_eq, bne_iff_ne] at h
  obtain ⟨h2, h3⟩ := h
  have e1 := mask_u64 11 (by omega) (b / 4503599627370496) (by omega) (by omega)
  have e2 := mask_u64 52 (by omega) b h0 h1
  rw [show ((2 : Int) ^ 11 - 1) = 2047 from by decide, show ((2 : Int) ^ 11) = 2048 from by decide] at e1
  rw [show ((2 : Int) ^ 52 - 1) = 4503599627370495 from by decide, show ((2 : Int) ^ 52) = 4503599627370496 from by decide] at e2
  rw [e1] at h2
  rw [e2] at h3
  obtain ⟨n, rfl⟩ := Int.eq_ofNat_of_zero_le h0
  have g1 : n / 4503599627370496 % 2048 = 2047 := by omega
  have g2 : n % 4503599627370496 ≠ 0 := by omega
  have b1 : Ieee.double.binade = 4503599627370496 := by decide
  have b2 : Ieee.double.infRung = 9218868437227405312 := by decide
  have b3 : Ieee.double.signWeight = 9223372036854775808 := by decide
  have hr : Ieee.double.read n = .nan (n / 9223372036854775808 % 2 == 1) (n % 9223372036854775808 - 9218868437227405312) := by
    unfold Ieee.Format.read
    rw [b1, b2, b3]
    simp only
    rw [if_neg (by omega), if_neg (by omega), if_neg (by omega)]
  show (Ieee.double.read n).order (Ieee.double.read n) = none
  rw [hr]
  rfl
end Go.Proofs.Qxb6612892aFmt
