/-
  THE CONTRACT of matchEnd.
-/
import Derived.Test.Qxb6613208aDoorXor
import Derived.Deep.DeepCutAuto
import Derived.Deep.RegionHeld3
namespace Go.Proofs.Qxb6613208aDoor
open Go.RowKit
set_option linter.unusedVariables false

set_option maxHeartbeats 8000000 in
set_option maxRecDepth 100000 in
/-- matchEnd -/
theorem c16 (b i r n N : Nat) (f : Nat → Nat) (w : World) (hR : Row w b N f) (hT : Tab w) (hn : i + 4 ≤ n) (hN : n ≤ N) (hM : n ≤ 1048576) (hr : r ≤ i) :
    Calls Tryd.prog 16 #[.slice (some ⟨b, 0, none⟩) n n, .int .i64 i, .int .i64 r] w fun e w' => ∃ m : Nat, e = .returned (.int .i64 m) ∧ i + 4 ≤ m ∧ m ≤ n ∧ (∀ k, i + 4 ≤ k → k < m → f k = f (k - r)) ∧ Kp [] w w' := by
  have HR : Hid (Row w b N f) := hR
  have HT : Hid (Tab w) := hT
  have HB := hR.r
  have HRB : Hid (∀ k, f k < 256) := HB
  have hlt := lt_of_cell (hR.c 0 (by omega))
  clear hR hT HB
  go_enter Tryd.func16, Tryd.ntmps16
  go_wp2_with fail
  go_loopw [7] (fun v wr => ∃ j : Nat, v = .int .i64 j ∧ i + 4 ≤ j ∧ j ≤ n ∧ (∀ k, i + 4 ≤ k → k < j → f k = f (k - r)) ∧ Kp [] w wr) (fun v _ => n - (intOf v).toNat)
  case atStart => exact ⟨i + 4, by go_num, by omega, by omega, fun k h1 h2 => by omega, Kp.refl _ _⟩
  case round =>
    obtain ⟨j, rfl, h1, h2, h3, hk⟩ := hrel
    have H3 : Hid (∀ k, i + 4 ≤ k → k < j → f k = f (k - r)) := h3
    have HK : Hid (Kp [] w wr) := hk
    clear h3 hk
    by_cases hj : j + 8 ≤ n
    · obtain ⟨q, hq⟩ : ∃ q : Nat, j = q + r := ⟨j - r, by omega⟩
      obtain ⟨X, hX⟩ : ∃ X : Nat, X = le8 f j ^^^ le8 f q := ⟨_, rfl⟩
      have l1 := le8_lt f j HRB.out
      have l2 := le8_lt f q HRB.out
      have l3 : X < 18446744073709551616 := by rw [hX]; exact Nat.xor_lt_two_pow (n := 64) (by omega) (by omega)
      have e1 : bits .xor .u64 ((le8 f j : Nat) : Int) ((le8 f q : Nat) : Int) = (X : Int) := by rw [bits_xor_u64_nat _ _ l1 l2, hX]
      have HX : Hid (le8 f j ^^^ le8 f q = X) := hX.symm
      have HRr : Hid (Row wr b N f) := HR.out.kept HK.out (by simp)
      clear hX l1 l2
      have b1 : (0 : Int) ≤ (j : Int) := by omega
      have b2 : (j : Int) ≤ (n : Int) := by omega
      have b3 : (0 : Int) ≤ (q : Int) := by omega
      have b4 : (q : Int) ≤ (n : Int) := by omega
      have ew : IntKind.i64.wrap ((j : Int) - (r : Int)) = (q : Int) := by rw [IntWalk.i64_left, IntWalk.wrap64_in _ (by omega)]; omega
      have b5 : q + 8 ≤ n := by omega
      have b6 : ¬ (n = j) := by omega
      have b7 : ¬ (n = q) := by omega
      have HQ : Hid (j = q + r) := hq
      clear hq
      go_wp2_with fail
      go_region_held3 (fun w' => Kp [] wr w') (first | exact Kp.refl [] wr | exact (Kp.refl [] wr).drew | assumption)
        (first | (go_at_call_of 22 (Value.slice (some ⟨b, j, none⟩) (n - j) (n - j)); refine (c22 b j (n - j) (n - j) N f _ (by omega) ?_ (by omega)).mono ?_; (exact HRr.out.kept (by assumption) (by simp)); rintro e w2 ⟨rfl, hk⟩; have hk2 := Kp.trans (by assumption) hk; clear hk) | (go_at_call_of 22 (Value.slice (some ⟨b, q, none⟩) (n - q) (n - q)); refine (c22 b q (n - q) (n - q) N f _ (by omega) ?_ (by omega)).mono ?_; (exact HRr.out.kept (by assumption) (by simp)); rintro e w2 ⟨rfl, hk⟩; have hk2 := Kp.trans (by assumption) hk; clear hk))
      have HK2 : Hid (Kp [] w w2) := HK.out.trans (by assumption)
      clear b1 b2 b3 b4 b6 b7 ew e1
      by_cases hx0 : X = 0
      · have hb : ((X : Int) == 0) = true := by simp [hx0]
        have HX0 : Hid (X = 0) := hx0
        clear hx0
        go_wp2_with fail
        go_roundw
        case rel =>
          refine ⟨j + 8, by go_num, by omega, by omega, fun k k1 k2 => ?_, HK2.out⟩
          by_cases k3 : k < j
          · exact H3.out k k1 k3
          · have hx := xor_all f HRB.out j q (by rw [HX.out, HX0.out]) (k - j) (by omega)
            have := HQ.out
            rw [show j + (k - j) = k by omega, show q + (k - j) = k - r by omega] at hx
            exact hx
        case measure => simp [intOf]; omega
      · have hb : ((X : Int) == 0) = false := by simp [hx0]
        have HX0 : Hid (X ≠ 0) := hx0
        obtain ⟨z, hz⟩ : ∃ z : Nat, z = Lib.ctz 64 X := ⟨_, rfl⟩
        have hz1 := xor_low f HRB.out j q X HX.out hx0 l3
        rw [← hz] at hz1
        obtain ⟨hz2, hz3⟩ := hz1
        have HZ3 : Hid (∀ k, k < z / 8 → f (j + k) = f (q + k)) := hz3
        have HZ : Hid (z = Lib.ctz 64 X) := hz
        clear hz hz3 hx0
        go_wp2_with fail
        refine (c23 X _ HX0.out l3 (fun k hk => (HK2.out.cell (lt_of_cell (HT.out 0 (by omega))) (by simp)).trans (HT.out k hk))).mono ?_
        rintro e w3 ⟨rfl, rfl⟩
        rw [← HZ.out]
        go_wp2_with fail
        go_ret
        refine ⟨j + z / 8, ?_, by omega, by omega, fun k k1 k2 => ?_, HK2.out⟩
        · go_num
        · by_cases k3 : k < j
          · exact H3.out k k1 k3
          · have hx := HZ3.out (k - j) (by omega)
            have := HQ.out
            rw [show j + (k - j) = k by omega, show q + (k - j) = k - r by omega] at hx
            exact hx
    · go_wp2_with fail
      go_loopw [7] (fun v wr => ∃ j : Nat, v = .int .i64 j ∧ i + 4 ≤ j ∧ j ≤ n ∧ (∀ k, i + 4 ≤ k → k < j → f k = f (k - r)) ∧ Kp [] w wr) (fun v _ => n - (intOf v).toNat)
      case atStart => exact ⟨j, rfl, h1, h2, H3.out, HK.out⟩
      case round =>
        clear h1 h2 H3 HK hj
        obtain ⟨j, rfl, h1, h2, h3, hk⟩ := hrel
        have H3 : Hid (∀ k, i + 4 ≤ k → k < j → f k = f (k - r)) := h3
        have HK : Hid (Kp [] w wr) := hk
        have HRr : Hid (Row wr b N f) := HR.out.kept HK.out (by simp)
        clear h3 hk
        by_cases hj : j < n
        · obtain ⟨q, hq⟩ : ∃ q : Nat, j = q + r := ⟨j - r, by omega⟩
          have c1 := HRr.out.c j (by omega)
          have c2 := HRr.out.c q (by omega)
          have b1 : (0 : Int) ≤ (j : Int) := by omega
          have b2 : (j : Int) < (n : Int) := by omega
          have b3 : (0 : Int) ≤ (q : Int) := by omega
          have b4 : (q : Int) < (n : Int) := by omega
          have ew : IntKind.i64.wrap ((j : Int) - (r : Int)) = (q : Int) := by rw [IntWalk.i64_left, IntWalk.wrap64_in _ (by omega)]; omega
          have HQ : Hid (j = q + r) := hq
          clear hq
          by_cases hc : f j = f q
          · have hb : (((f j : Nat) : Int) == ((f q : Nat) : Int)) = true := by simp [hc]
            have HC : Hid (f j = f q) := hc
            clear hc
            go_wp2_with fail
            go_quiet (fail)
            go_wp2_with fail
            go_roundw
            case rel =>
              refine ⟨j + 1, by go_num, by omega, by omega, fun k k1 k2 => ?_, HK.out.drewN _⟩
              by_cases k3 : k < j
              · exact H3.out k k1 k3
              · have e1 : k = j := by omega
                have := HQ.out
                rw [e1, show j - r = q by omega]
                exact HC.out
            case measure => simp [intOf]; omega
          · have hb : (((f j : Nat) : Int) == ((f q : Nat) : Int)) = false := by simp; omega
            clear hc
            go_wp2_with fail
            go_quiet (fail)
            go_wp2_with fail
            go_ret
            exact ⟨j, rfl, by omega, by omega, H3.out, HK.out.drewN _⟩
        · have hd : decide ((j : Int) < (n : Int)) = false := by simp; omega
          go_wp2_with fail
          go_quiet (fail)
          go_wp2_with fail
          go_ret
          exact ⟨j, rfl, by omega, by omega, H3.out, HK.out.drewN _⟩

end Go.Proofs.Qxb6613208aDoor
