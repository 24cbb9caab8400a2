/-
  THE CONTRACTS of the laws' readers zzLiteralLen and zzCopyOf.
-/
import Derived.Test.Qxb6613208aDoorBin
import Derived.Test.Qxb6613208aDoorPlain
import Derived.Deep.DeepCutAuto
import Derived.OwnWalk
namespace Go.Proofs.Qxb6613208aDoor
open Go.RowKit
set_option linter.unusedVariables false

theorem mod_next (v k : Nat) : v % 256 ^ k + v / 256 ^ k % 256 * 256 ^ k = v % 256 ^ (k + 1) := by
  rw [Nat.pow_succ, Nat.mod_mul, Nat.mul_comm (256 ^ k)]

theorem or_at0 (v u b : Nat) (hu : u = v % 256 ^ 0) (hb : b = v / 256 ^ 0 % 256) : bits .or .u64 (u : Int) ((b : Int)) = ((v % 256 ^ 1 : Nat) : Int) := by
  have h := mod_next v 0
  have h1 : u < 1 := by rw [hu]; exact Nat.mod_lt _ (by decide)
  have h2 : b < 256 := by rw [hb]; exact Nat.mod_lt _ (by decide)
  rw [bits_join_low .u64 64 (by decide) wraps_u64 0 (u : Int) ((b : Int)) (by omega) (by omega) (by omega) (by omega) (by omega) (by omega)]
  rw [← h, ← hu, ← hb]
  omega

theorem or_at1 (v u b : Nat) (hu : u = v % 256 ^ 1) (hb : b = v / 256 ^ 1 % 256) : bits .or .u64 (u : Int) ((b : Int) * 256) = ((v % 256 ^ 2 : Nat) : Int) := by
  have h := mod_next v 1
  have h1 : u < 256 := by rw [hu]; exact Nat.mod_lt _ (by decide)
  have h2 : b < 256 := by rw [hb]; exact Nat.mod_lt _ (by decide)
  rw [bits_join_low .u64 64 (by decide) wraps_u64 8 (u : Int) ((b : Int) * 256) (by omega) (by omega) (by omega) (by omega) (by omega) (by omega)]
  rw [← h, ← hu, ← hb]
  omega

theorem or_at2 (v u b : Nat) (hu : u = v % 256 ^ 2) (hb : b = v / 256 ^ 2 % 256) : bits .or .u64 (u : Int) ((b : Int) * 65536) = ((v % 256 ^ 3 : Nat) : Int) := by
  have h := mod_next v 2
  have h1 : u < 65536 := by rw [hu]; exact Nat.mod_lt _ (by decide)
  have h2 : b < 256 := by rw [hb]; exact Nat.mod_lt _ (by decide)
  rw [bits_join_low .u64 64 (by decide) wraps_u64 16 (u : Int) ((b : Int) * 65536) (by omega) (by omega) (by omega) (by omega) (by omega) (by omega)]
  rw [← h, ← hu, ← hb]
  omega

theorem or_at3 (v u b : Nat) (hu : u = v % 256 ^ 3) (hb : b = v / 256 ^ 3 % 256) : bits .or .u64 (u : Int) ((b : Int) * 16777216) = ((v % 256 ^ 4 : Nat) : Int) := by
  have h := mod_next v 3
  have h1 : u < 16777216 := by rw [hu]; exact Nat.mod_lt _ (by decide)
  have h2 : b < 256 := by rw [hb]; exact Nat.mod_lt _ (by decide)
  rw [bits_join_low .u64 64 (by decide) wraps_u64 24 (u : Int) ((b : Int) * 16777216) (by omega) (by omega) (by omega) (by omega) (by omega) (by omega)]
  rw [← h, ← hu, ← hb]
  omega

set_option maxHeartbeats 4000000 in
set_option maxRecDepth 100000 in
/-- zzLiteralLen, at a literal's head -/
theorem c10 (b d0 L c q l x m limit n : Nat) (B : Nat → Nat) (w : World) (hR : Row w b n B) (hh : IsHead B (d0 + q) l x) (hm : B (d0 + q) = m * 4) (hL : q + 1 + x ≤ L) (hn : d0 + L ≤ n) (hl : l ≤ limit) (hM : n ≤ 1048576) (hlim : limit ≤ 1048576) :
    Calls Tryd.prog 10 #[.slice (some ⟨b, d0, none⟩) L c, .int .i64 (q + 1 : Nat), .int .i64 m, .int .i64 limit] w fun e w' => e = .returned (.tuple #[.int .i64 l, .int .i64 (q + 1 + x : Nat), .bool true]) ∧ w' = w := by
  obtain ⟨h1, h2⟩ := hh
  obtain ⟨v, rfl⟩ : ∃ v, l = v + 1 := ⟨l - 1, by omega⟩
  rcases h2 with ⟨rfl, h3, h4⟩ | ⟨h3, h4, h5, h6, h7, h8⟩
  · have e : m = v := by omega
    subst e
    clear hm h4
    go_enter Tryd.func10, Tryd.ntmps10
    go_wp2_with fail
    go_ret3
    exact ⟨by go_num, rfl⟩
  · have e : m = 59 + x := by omega
    subst e
    clear hm h7
    have HR : Hid (Row w b n B) := hR
    have HB : Hid (∀ k, k < x → B (d0 + q + 1 + k) = v / 256 ^ k % 256) := h8
    have HV : Hid (v < 256 ^ x) := h6
    clear hR h8 h6
    go_enter Tryd.func10, Tryd.ntmps10
    go_wp2_with fail
    go_loop [12, 13] (fun vv kv => ∃ k u : Nat, k ≤ x ∧ kv = .int .i64 k ∧ vv = .int .u64 u ∧ u = v % 256 ^ k ∧ u ≤ 4294967295) (fun _ kv => x - (intOf kv).toNat)
    case atStart => exact ⟨0, 0, by omega, rfl, rfl, by simp [Nat.mod_one], by omega⟩
    case round =>
      obtain ⟨k, u, k1, rfl, rfl, u1, u2⟩ := hrel
      have HU : Hid (u = v % 256 ^ k) := u1
      clear u1
      by_cases hk : k < x
      · have hB1 := HB.out k hk
        have hc := HR.out.c (d0 + q + 1 + k) (by omega)
        have hr := HR.out.r (d0 + q + 1 + k)
        generalize B (d0 + q + 1 + k) = y at hB1 hc hr
        have HB1 : Hid (y = v / 256 ^ k % 256) := hB1
        clear hB1
        have hdk : decide (k < x) = true := decide_eq_true hk
        have e4 : d0 + q + 1 + k = d0 + (q + 1 + k) := by omega
        rw [e4] at hc
        have HN : Hid (v % 256 ^ k + v / 256 ^ k % 256 * 256 ^ k = v % 256 ^ (k + 1)) := mod_next v k
        clear e4
        have hkk : k = 0 ∨ k = 1 ∨ k = 2 ∨ k = 3 := by omega
        rcases hkk with rfl | rfl | rfl | rfl
        · go_wp2_with fail
          go_round
          case rel =>
            refine ⟨1, v % 256 ^ 1, by omega, by go_num, ?_, rfl, Nat.le_of_lt_succ (Nat.lt_of_lt_of_le (Nat.mod_lt _ (by decide)) (by decide))⟩
            exact congrArg (Value.int IntKind.u64) (or_at0 v u y HU.out HB1.out)
          case measure => simp [intOf]; omega
        · go_wp2_with fail
          go_round
          case rel =>
            refine ⟨2, v % 256 ^ 2, by omega, by go_num, ?_, rfl, Nat.le_of_lt_succ (Nat.lt_of_lt_of_le (Nat.mod_lt _ (by decide)) (by decide))⟩
            exact congrArg (Value.int IntKind.u64) (or_at1 v u y HU.out HB1.out)
          case measure => simp [intOf]; omega
        · go_wp2_with fail
          go_round
          case rel =>
            refine ⟨3, v % 256 ^ 3, by omega, by go_num, ?_, rfl, Nat.le_of_lt_succ (Nat.lt_of_lt_of_le (Nat.mod_lt _ (by decide)) (by decide))⟩
            exact congrArg (Value.int IntKind.u64) (or_at2 v u y HU.out HB1.out)
          case measure => simp [intOf]; omega
        · go_wp2_with fail
          go_round
          case rel =>
            refine ⟨4, v % 256 ^ 4, by omega, by go_num, ?_, rfl, Nat.le_of_lt_succ (Nat.lt_of_lt_of_le (Nat.mod_lt _ (by decide)) (by decide))⟩
            exact congrArg (Value.int IntKind.u64) (or_at3 v u y HU.out HB1.out)
          case measure => simp [intOf]; omega
      · have e : k = x := by omega
        subst e
        rw [Nat.mod_eq_of_lt HV.out] at HU
        have e2 := HU.out
        subst e2
        go_wp2_with fail
        go_ret3
        exact ⟨by go_num, rfl⟩

end Go.Proofs.Qxb6613208aDoor
