/-
  THE CONTRACT of keep.
-/
import Derived.Test.Qxb6613208aDoorTab
namespace Go.Proofs.Qxb6613208aDoor
open Go.RowKit
set_option linter.unusedVariables false

set_option maxHeartbeats 4000000 in
set_option maxRecDepth 100000 in
/-- keep -/
theorem c14 (t i b p n N : Nat) (f : Nat → Nat) (w : World) (hT : Tbl w t i) (hR : Row w b N f) (hn : p + 4 ≤ n) (hN : n ≤ N) (hM : n ≤ 1048576) (hp : p ≤ i) (htb : t ≠ b) :
    Calls Tryd.prog 14 #[.pointer (some ⟨t, 0, none⟩), .slice (some ⟨b, 0, none⟩) n n, .int .i64 p] w fun e w' => e = .returned (.tuple #[]) ∧ Tbl w' t i ∧ Kp [t] w w' := by
  have HR : Hid (Row w b N f) := hR
  have HT : Hid (Tbl w t i) := hT
  clear hR hT
  go_enter Tryd.func14, Tryd.ntmps14
  go_wp2_with fail
  go_region_with (first | (go_at_call 21; refine (c21 b p n n N f _ ((HR.out.kept (Kp.refl [] _).drew (by simp))) (by omega) (by omega) (by omega) (by omega)).mono ?_; rintro e w2 ⟨rfl, hk⟩; have hk2 : Kp [] w w2 := (Kp.refl [] _).drew.trans hk; clear hk) | (go_at_call 20; have hT2 := HT.out.kept hk2 (by simp); refine (c20 t i _ _ hT2).mono ?_; rintro e w3 ⟨⟨h, hh, rfl⟩, rfl⟩; obtain ⟨q, hq, hcell⟩ := hT2.e h hh; have hfr := hT2.f (1 + h); have hi1 : (h : Int) < 16384 := (by omega); clear hT2))
  all_goals
    have ew : IntKind.u16.wrap (p : Int) = ((p % 65536 : Nat) : Int) := by rw [IntKind.wrap_u16]; omega
    rw [ew]
    go_end0
    exact ⟨rfl, (HT.out.kept hk2 (by simp)).set h p hp, hk2.any.setCell (Or.inl (by simp)) _⟩

end Go.Proofs.Qxb6613208aDoor
