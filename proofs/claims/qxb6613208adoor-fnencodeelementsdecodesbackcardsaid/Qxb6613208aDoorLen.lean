/-
  bits.Len32, Len64, Len: laid by the shelf's tool for this program; and what Len32 says of a number.
-/
import Derived.Test.Qxb6613208aDoorRows
import Derived.Lib.Strings
import Derived.Lib.Slices
import Derived.Lib.Small
import Derived.Lib.Walk
import Derived.Lib.BitFns
import Derived.Lib.ItoaNum
namespace Go.Proofs.Qxb6613208aDoor
set_option linter.unusedVariables false

set_option maxHeartbeats 4000000 in
set_option maxRecDepth 100000 in
theorem bits_Len32 (x : Int) (w : World) (h0 : 0 ≤ x) (h1 : x ≤ 4294967295) :
    Calls Tryd.prog 24 #[.int .u32 x] w fun e w' => e = .returned (.int .i64 (Lib.bitLen x.toNat)) ∧ w' = w := by
  go_enter Tryd.func24, Tryd.ntmps24
  go_wp2
  all_goals (go_ret; refine ⟨congrArg Ending.returned (congrArg (Value.int IntKind.i64) ?_), rfl⟩)
  all_goals first
    | (rw [Lib.len8_of (x / 65536 / 256 % 256) (by omega) (by omega)]
       have e : (x / 65536 / 256 % 256).toNat = x.toNat / 16777216 := by omega
       have l := Lib.bitLen_le8' (x / 65536 / 256 % 256) (by omega) (by omega)
       have s := Lib.bitLen_shift24 x.toNat (by omega) (by omega)
       rw [e] at l ⊢
       omega)
    | (rw [Lib.len8_of (x / 65536 % 256) (by omega) (by omega)]
       have e : (x / 65536 % 256).toNat = x.toNat / 65536 := by omega
       have l := Lib.bitLen_le8' (x / 65536 % 256) (by omega) (by omega)
       have s := Lib.bitLen_shift16 x.toNat (by omega) (by omega)
       rw [e] at l ⊢
       omega)
    | (rw [Lib.len8_of (x / 256 % 256) (by omega) (by omega)]
       have e : (x / 256 % 256).toNat = x.toNat / 256 := by omega
       have l := Lib.bitLen_le8' (x / 256 % 256) (by omega) (by omega)
       have s := Lib.bitLen_shift8 x.toNat (by omega) (by omega)
       rw [e] at l ⊢
       omega)
    | (rw [Lib.len8_of (x % 256) (by omega) (by omega)]
       have e : (x % 256).toNat = x.toNat := by omega
       have l := Lib.bitLen_le8' (x % 256) (by omega) (by omega)
       rw [e] at l ⊢
       omega)

set_option maxHeartbeats 4000000 in
set_option maxRecDepth 100000 in
theorem bits_Len64 (x : Int) (w : World) (h0 : 0 ≤ x) (h1 : x ≤ 18446744073709551615) :
    Calls Tryd.prog 26 #[.int .u64 x] w fun e w' => e = .returned (.int .i64 (Lib.bitLen x.toNat)) ∧ w' = w := by
  go_enter Tryd.func26, Tryd.ntmps26
  go_wp2
  all_goals (go_ret; refine ⟨congrArg Ending.returned (congrArg (Value.int IntKind.i64) ?_), rfl⟩)
  all_goals first
    | (rw [Lib.len8_of (x / 4294967296 / 65536 / 256 % 256) (by omega) (by omega)]
       have e : (x / 4294967296 / 65536 / 256 % 256).toNat = x.toNat / 72057594037927936 := by omega
       have l := Lib.bitLen_le8' (x / 4294967296 / 65536 / 256 % 256) (by omega) (by omega)
       have s := Lib.bitLen_shift56 x.toNat (by omega) (by omega)
       rw [e] at l ⊢
       omega)
    | (rw [Lib.len8_of (x / 4294967296 / 65536 % 256) (by omega) (by omega)]
       have e : (x / 4294967296 / 65536 % 256).toNat = x.toNat / 281474976710656 := by omega
       have l := Lib.bitLen_le8' (x / 4294967296 / 65536 % 256) (by omega) (by omega)
       have s := Lib.bitLen_shift48 x.toNat (by omega) (by omega)
       rw [e] at l ⊢
       omega)
    | (rw [Lib.len8_of (x / 4294967296 / 256 % 256) (by omega) (by omega)]
       have e : (x / 4294967296 / 256 % 256).toNat = x.toNat / 1099511627776 := by omega
       have l := Lib.bitLen_le8' (x / 4294967296 / 256 % 256) (by omega) (by omega)
       have s := Lib.bitLen_shift40 x.toNat (by omega) (by omega)
       rw [e] at l ⊢
       omega)
    | (rw [Lib.len8_of (x / 4294967296 % 256) (by omega) (by omega)]
       have e : (x / 4294967296 % 256).toNat = x.toNat / 4294967296 := by omega
       have l := Lib.bitLen_le8' (x / 4294967296 % 256) (by omega) (by omega)
       have s := Lib.bitLen_shift32 x.toNat (by omega) (by omega)
       rw [e] at l ⊢
       omega)
    | (rw [Lib.len8_of (x / 65536 / 256 % 256) (by omega) (by omega)]
       have e : (x / 65536 / 256 % 256).toNat = x.toNat / 16777216 := by omega
       have l := Lib.bitLen_le8' (x / 65536 / 256 % 256) (by omega) (by omega)
       have s := Lib.bitLen_shift24 x.toNat (by omega) (by omega)
       rw [e] at l ⊢
       omega)
    | (rw [Lib.len8_of (x / 65536 % 256) (by omega) (by omega)]
       have e : (x / 65536 % 256).toNat = x.toNat / 65536 := by omega
       have l := Lib.bitLen_le8' (x / 65536 % 256) (by omega) (by omega)
       have s := Lib.bitLen_shift16 x.toNat (by omega) (by omega)
       rw [e] at l ⊢
       omega)
    | (rw [Lib.len8_of (x / 256 % 256) (by omega) (by omega)]
       have e : (x / 256 % 256).toNat = x.toNat / 256 := by omega
       have l := Lib.bitLen_le8' (x / 256 % 256) (by omega) (by omega)
       have s := Lib.bitLen_shift8 x.toNat (by omega) (by omega)
       rw [e] at l ⊢
       omega)
    | (rw [Lib.len8_of (x % 256) (by omega) (by omega)]
       have e : (x % 256).toNat = x.toNat := by omega
       have l := Lib.bitLen_le8' (x % 256) (by omega) (by omega)
       rw [e] at l ⊢
       omega)

theorem bits_Len (x : Int) (w : World) (h0 : 0 ≤ x) (h1 : x ≤ 18446744073709551615) :
    Calls Tryd.prog 19 #[.int .u64 x] w fun e w' => e = .returned (.int .i64 (Lib.bitLen x.toNat)) ∧ w' = w := by
  go_enter Tryd.func19, Tryd.ntmps19
  go_wp2_with (go_at_call 26; refine (bits_Len64 x _ h0 h1).mono ?_; rintro e w' ⟨rfl, rfl⟩)
  go_ret
  exact ⟨rfl, rfl⟩

/-- a number fits in as many bytes as its bits ask -/
theorem len_fits (x : Nat) (h0 : x ≠ 0) (h : x < 4294967296) : 1 ≤ (Lib.bitLen x + 7) / 8 ∧ (Lib.bitLen x + 7) / 8 ≤ 4 ∧ x < 256 ^ ((Lib.bitLen x + 7) / 8) := by
  obtain ⟨h1, _, h3⟩ := Lib.bitLenAux_bounds 64 x (by omega) h0
  have h4 : Lib.bitLen x ≤ 32 := Lib.bitLen_le x 32 (by omega) (by omega)
  have e : Lib.bitLen x = Lib.bitLenAux 64 x := rfl
  rw [← e] at h1 h3
  refine ⟨by omega, by omega, ?_⟩
  refine Nat.lt_of_lt_of_le h3 ?_
  rw [show (256 : Nat) = 2 ^ 8 by rfl, ← Nat.pow_mul]
  exact Nat.pow_le_pow_right (by omega) (by omega)

end Go.Proofs.Qxb6613208aDoor
