/-
  THE CONTRACT of lookup.
-/
import Derived.Test.Qxb6613208aDoorKeep
namespace Go.Proofs.Qxb6613208aDoor
open Go.RowKit
set_option linter.unusedVariables false

/-- what lookup answers: 0, or how far back the same four bytes stand -/
def Back (f : Nat → Nat) (i r : Nat) : Prop := r = 0 ∨ (1 ≤ r ∧ r ≤ i ∧ r ≤ 65535 ∧ ∀ k, k < 4 → f (i - r + k) = f (i + k))

set_option maxHeartbeats 4000000 in
set_option maxRecDepth 100000 in
/-- lookup -/
theorem c15 (t i b n N : Nat) (f : Nat → Nat) (w : World) (hT : Tbl w t i) (hR : Row w b N f) (hn : i + 4 ≤ n) (hN : n ≤ N) (hM : n ≤ 1048576) (htb : t ≠ b) :
    Calls Tryd.prog 15 #[.pointer (some ⟨t, 0, none⟩), .slice (some ⟨b, 0, none⟩) n n, .int .i64 i] w fun e w' => ∃ r : Nat, e = .returned (.int .i64 r) ∧ Back f i r ∧ Tbl w' t i ∧ Kp [t] w w' := by
  have HR : Hid (Row w b N f) := hR
  have HT : Hid (Tbl w t i) := hT
  clear hR hT
  go_enter Tryd.func15, Tryd.ntmps15
  go_wp2_with fail
  refine (c21 b i n n N f _ HR.out (by omega) (by omega) (by omega) (by omega)).mono ?_
  rintro e w2 ⟨rfl, hk⟩
  go_wp2_with fail
  have hT2 := HT.out.kept hk (by simp)
  refine (c20 t i _ _ hT2).mono ?_
  rintro e w3 ⟨⟨h, hh, rfl⟩, rfl⟩
  obtain ⟨q, hq, hcell⟩ := hT2.e h hh
  have hfr := hT2.f (1 + h)
  have hi1 : (h : Int) < 16384 := by omega
  clear hT2
  obtain ⟨r, hr⟩ : ∃ r : Nat, r = (i - q) % 65536 := ⟨_, rfl⟩
  have e3 : wrap64 (IntKind.u16.wrap (IntKind.u16.wrap (i : Int) - (q : Int) % 65536)) = (r : Int) := by
    rw [IntKind.wrap_u16, IntKind.wrap_u16, IntWalk.wrap64_in _ (by omega)]; omega
  have hw : IntKind.u16.wrap (i : Int) = ((i % 65536 : Nat) : Int) := by rw [IntKind.wrap_u16]; omega
  have HW : Hid (IntKind.u16.wrap (i : Int) = ((i % 65536 : Nat) : Int)) := hw
  clear hw
  have HK : Hid (Kp [] w w3) := hk
  have hri : r ≤ i := by omega
  have hr6 : r ≤ 65535 := by omega
  clear hk hr
  by_cases hr0 : r = 0
  · subst hr0
    go_wp2_with fail
    go_ret
    rw [HW.out]
    exact ⟨0, rfl, Or.inl rfl, (HT.out.kept HK.out (by simp)).set h i (Nat.le_refl _), HK.out.any.setCell (Or.inl (by simp)) _⟩
  · have hr1 : 1 ≤ (r : Int) := by omega
    have hr2 : decide ((r : Int) < 1) = false := by simp; omega
    have e4 : wrap64 ((i : Int) - (r : Int)) = ((i - r : Nat) : Int) := by rw [IntWalk.wrap64_in _ (by omega)]; omega
    go_wp2_with fail
    rw [show (i : Int) - (r : Int) = ((i - r : Nat) : Int) by omega]
    refine (c21 b (i - r) n n N f _ ((HR.out.kept HK.out (by simp)).setOther htb) (by omega) (by omega) (by omega) (by omega)).mono ?_
    rintro e w4 ⟨rfl, hk4⟩
    have HT4 : Hid (Tbl w4 t i) := by
      rw [HW.out] at hk4
      exact ((HT.out.kept HK.out (by simp)).set h i (Nat.le_refl _)).kept hk4 (by simp)
    have HK4 : Hid (Kp [t] w w4) := (HK.out.any.setCell (Or.inl (by simp)) _).trans hk4.any
    have HB := HR.out.r
    clear hk4
    by_cases heq : le4 f (i - r) = le4 f i
    · have HEQ : Hid (le4 f (i - r) = le4 f i) := heq
      have hb : (((le4 f (i - r) : Nat) : Int) == ((le4 f i : Nat) : Int)) = true := by simp [heq]
      clear heq
      go_wp2_with fail
      go_ret
      exact ⟨r, rfl, Or.inr ⟨by omega, by omega, by omega, le4_eq f _ _ HB HEQ.out⟩, HT4.out, HK4.out⟩
    · have hb : (((le4 f (i - r) : Nat) : Int) == ((le4 f i : Nat) : Int)) = false := by simp; omega
      clear heq
      go_wp2_with fail
      go_ret
      exact ⟨0, rfl, Or.inl rfl, HT4.out, HK4.out⟩

end Go.Proofs.Qxb6613208aDoor
