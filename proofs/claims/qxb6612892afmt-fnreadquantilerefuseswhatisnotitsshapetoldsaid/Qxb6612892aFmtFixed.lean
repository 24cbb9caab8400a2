/-
  THE CONTRACT of (*protoMessage).fixed.
-/
import Derived.Test.Qxb6612892aFmtVarint
namespace Go.Proofs.Qxb6612892aFmt
open Go.RowKit
open Go.Extern.Stop Go.Stop Go.Extern
set_option linter.unusedVariables false
attribute [local go_sem] Tryf.call22 Tryf.guard Tryf.fmt3 Tryf.fmt3r Tryf.op3_100

theorem msg_end' {w : World} {mb : Nat} {s : ByteArray} {a en : Nat} (h : Msg w mb s a en) (k : Nat) (hk : a + k ≤ en) (hs : en ≤ s.size) (n : Nat) :
    Msg ((w.drewN n).setCell ⟨mb, 1, none⟩ (.int .i64 ((a : Int) + (k : Int)))) mb s (en - ((rs s a en).drop k).length) en := by
  rw [List.length_drop, rs_len s _ _ hs]
  have e : en - (en - a - k) = a + k := by omega
  rw [e]
  have := (h.drewN n).set (a + k)
  rw [show (((a + k : Nat)) : Int) = (a : Int) + (k : Int) by omega] at this
  exact this

set_option maxRecDepth 100000 in
set_option maxHeartbeats 1000000 in
theorem c24no (F : Interp) (mb : Nat) (s : ByteArray) (at_ en nn : Nat) (w : World) (hF : F.answers w.tape) (hm : Msg w mb s at_ en) (hle : at_ ≤ en) (hs : en ≤ s.size) (hsz : s.size ≤ 1048576) (hn : nn ≤ 8)
    (ho : en - at_ < nn) :
    Calls Tryf.prog 24 #[.pointer (some ⟨mb, 0, none⟩), .int .i64 nn] w fun e w' => VOut mb s en w none e w' := by
  obtain ⟨h0, h1, h2, hf⟩ := hm
  have hF' := answers_open hF
  have hlt : (en : Int) - (at_ : Int) < (nn : Int) := by omega
  have hw : IntKind.i64.wrap ((en : Int) - (at_ : Int)) = (en : Int) - (at_ : Int) := IntWalk.i64_in _ (by omega)
  go_enter Tryf.func24, Tryf.ntmps24
  go_wp2
  clear hF'
  go_quiet (fail)
  go_wp2_with fail
  have g0 : (w.drewN nq).cell? ⟨mb, 0, none⟩ = some (.string s) := h0
  have g1 : (w.drewN nq).cell? ⟨mb, 1, none⟩ = some (.int .i64 at_) := h1
  have g2 : (w.drewN nq).cell? ⟨mb, 2, none⟩ = some (.int .i64 en) := h2
  have gk : Kp [] w (w.drewN nq) := (Kp.refl _ _).drewN _
  have gF : F.answers (w.drewN nq).tape := hF
  clear h0 h1 h2 hf hF
  generalize w.drewN nq = w1 at g0 g1 g2 gk gF ⊢
  have hF' := answers_open gF
  have hlt1 := lt_of_cell g0
  go_region
  all_goals go_wp2
  all_goals go_ret2
  all_goals exact VOut.no rfl _ (gk.trans (by repeat (first | exact Kp.refl _ _ | apply Kp.drewN | apply Kp.alloc | apply Kp.drew)))

set_option maxRecDepth 100000 in
set_option maxHeartbeats 1000000 in
theorem c24yes (mb : Nat) (s : ByteArray) (at_ en nn : Nat) (w : World) (hm : Msg w mb s at_ en) (hle : at_ ≤ en) (hs : en ≤ s.size) (hsz : s.size ≤ 1048576) (hn : nn ≤ 8)
    (ho : nn ≤ en - at_) (X : Int) (hX : fold8 0 0 ((rs s at_ en).take nn) = X) :
    Calls Tryf.prog 24 #[.pointer (some ⟨mb, 0, none⟩), .int .i64 nn] w fun e w' => VOut mb s en w (some (X, (rs s at_ en).drop nn)) e w' := by
  obtain ⟨h0, h1, h2, hf⟩ := hm
  have hlt : ¬ (en : Int) - (at_ : Int) < (nn : Int) := by omega
  have hw : IntKind.i64.wrap ((en : Int) - (at_ : Int)) = (en : Int) - (at_ : Int) := IntWalk.i64_in _ (by omega)
  have HX : Hid (fold8 0 0 ((rs s at_ en).take nn) = X) := hX
  clear hX
  go_enter Tryf.func24, Tryf.ntmps24
  go_wp2
  go_quiet (fail)
  go_wp2_with fail
  go_loopw [6, 41] (fun v i wr => ∃ (k : Nat) (V : Int), k ≤ nn ∧ i = .int .i64 k ∧ v = .int .u64 V ∧ Hid (fold8 k V ((rs s (at_ + k) en).take (nn - k)) = X) ∧ (∃ n, wr = w.drewN n)) (fun _ i _ => nn - (intOf i).toNat)
  case atStart => exact ⟨0, 0, by omega, rfl, rfl, HX, _, rfl⟩
  case round =>
    obtain ⟨k, V, hk, rfl, rfl, HV, ⟨n, rfl⟩⟩ := hrel
    by_cases hkn : k < nn
    · have HV2 : Hid (fold8 (k + 1) (fstep V k s[at_ + k]) ((rs s (at_ + k + 1) en).take (nn - (k + 1))) = X) := by
        have := HV.out
        rw [rs_cons s _ _ (by omega) hs, show nn - k = (nn - (k + 1)) + 1 by omega] at this
        simp only [List.take_succ_cons, fold8] at this
        exact this
      have hidx := run_idx s at_ k (by omega)
      generalize s[at_ + k] = c at hidx HV2
      have hw : IntKind.i64.wrap ((at_ : Int) + (k : Int)) = (at_ : Int) + (k : Int) := IntWalk.i64_in _ (by omega)
      clear HV HX
      go_wp2_with fail
      go_quiet (fail)
      go_wp2_with fail
      go_roundw
      case rel =>
        refine ⟨k + 1, fstep V k c, by omega, by go_num, rfl, ?_, _, rfl⟩
        show fold8 (k + 1) (fstep V k c) ((rs s (at_ + (k + 1)) en).take (nn - (k + 1))) = X
        rw [show at_ + (k + 1) = at_ + k + 1 by omega]
        exact HV2.out
      case measure => simp [intOf]; omega
    · have HE : Hid (V = X) := by
        have := HV.out
        rw [show nn - k = 0 by omega] at this
        simp only [List.take_zero, fold8] at this
        exact this
      have hw2 : IntKind.i64.wrap ((at_ : Int) + (nn : Int)) = (at_ : Int) + (nn : Int) := IntWalk.i64_in _ (by omega)
      go_wp2_with fail
      go_ret2
      show VOut mb s en w (some (X, (rs s at_ en).drop nn)) (.returned (.tuple #[.int .u64 V, .nilIface])) _
      exact VOut.yes rfl HE.out (((Kp.refl _ _).drewN _).setCell (Or.inl (by simp)) _) (msg_end' ⟨h0, h1, h2, hf⟩ nn (by omega) hs _)

end Go.Proofs.Qxb6612892aFmt
