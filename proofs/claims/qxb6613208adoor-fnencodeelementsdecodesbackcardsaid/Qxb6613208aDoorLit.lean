/-
  THE CONTRACT of emitLiteral.
-/
import Derived.Test.Qxb6613208aDoorCopy
import Derived.Test.Qxb6613208aDoorBlit
import Derived.Test.Qxb6613208aDoorLen
namespace Go.Proofs.Qxb6613208aDoor
open Go.RowKit
set_option linter.unusedVariables false

set_option maxHeartbeats 1000000 in
set_option maxRecDepth 100000 in
/-- emitLiteral, of nothing -/
theorem c17_none (dst : Value) (d c : Nat) (a : Option Addr) (w : World) :
    Calls Tryd.prog 17 #[dst, .int .i64 d, .slice a 0 c] w fun e w' => e = .returned (.int .i64 d) ∧ w' = w := by
  go_enter Tryd.func17, Tryd.ntmps17
  go_wp2_with fail
  go_ret
  exact ⟨rfl, rfl⟩

/-- the head is written -/
def LitAt (f g : Nat → Nat) (w wx : World) (b n d l x : Nat) : Prop :=
  Row wx b n g ∧ Free wx b ∧ Kp [b] w wx ∧ Only f g d (d + 1 + x) ∧ IsHead g d l x

/-- k bytes of the length are written -/
def HeadAt (f g : Nat → Nat) (w wx : World) (b n d l X k : Nat) : Prop :=
  Row wx b n g ∧ Free wx b ∧ Kp [b] w wx ∧ Only f g d (d + 1 + k) ∧ g d = (59 + X) * 4 ∧ ∀ j, j < k → g (d + 1 + j) = (l - 1) / 256 ^ j % 256

theorem HeadAt.next {f g : Nat → Nat} {w wx : World} {b n d l X k : Nat} (h : HeadAt f g w wx b n d l X k) :
    HeadAt f (upd g (d + 1 + k) ((l - 1) / 256 ^ k % 256)) w (wx.setCell ⟨b, d + 1 + k, none⟩ (.int .u8 ((l - 1) / 256 ^ k % 256 : Nat))) b n d l X (k + 1) := by
  obtain ⟨h1, h2, h3, h4, h5, h6⟩ := h
  refine ⟨h1.set _ _ (by omega), h2.set _ _, h3.setCell (Or.inl (by simp)) _, fun i hi => ?_, ?_, fun j hj => ?_⟩
  · rw [upd_other _ _ _ _ (by omega)]; exact h4 i (by omega)
  · rw [upd_other _ _ _ _ (by omega)]; exact h5
  · by_cases e : j = k
    · subst e; exact upd_same _ _ _
    · rw [upd_other _ _ _ _ (by omega)]; exact h6 j (by omega)

theorem or0_u8 : ∀ k : Fin 64, bits .or .u8 ((k.val : Int) * 4) 0 = (k.val : Int) * 4 := by decide +kernel

theorem pow_next (v k : Nat) : v / 256 ^ k / 256 = v / 256 ^ (k + 1) := by rw [Nat.div_div_eq_div_mul, Nat.pow_succ]

set_option maxHeartbeats 4000000 in
set_option maxRecDepth 100000 in
/-- emitLiteral -/
theorem c17 (b s d l p n ns c : Nat) (S f : Nat → Nat) (w : World) (hR : Row w b n f) (hF : Free w b) (hS : Row w s ns S) (hne : s ≠ b) (hl : 1 ≤ l) (hp : p + l ≤ ns) (hd : d + 1 + l + l / 8 ≤ n) (hM : n ≤ 1048576) :
    Calls Tryd.prog 17 #[.slice (some ⟨b, 0, none⟩) n n, .int .i64 d, .slice (some ⟨s, p, none⟩) l c] w fun e w' => ∃ (e' : Nat) (g : Nat → Nat), e = .returned (.int .i64 e') ∧ e' ≤ d + 1 + l + l / 8 ∧ Wrote S f g w w' b n d p false 1 e' (p + l) true := by
  have HR : Hid (Row w b n f) := hR
  have HF : Hid (Free w b) := hF
  have HS : Hid (Row w s ns S) := hS
  have c0 := hR.c d (by omega)
  have f0 := hF d
  have b1 : (d : Int) < (n : Int) := by omega
  obtain ⟨v, rfl⟩ : ∃ v, l = v + 1 := ⟨l - 1, by omega⟩
  clear hR hF hS
  go_enter Tryd.func17, Tryd.ntmps17
  go_upto_if 18 with fail
  go_cut [1] (fun dv wx => ∃ (x : Nat) (g : Nat → Nat), dv = .int .i64 (d + 1 + x : Nat) ∧ LitAt f g w wx b n d (v + 1) x)
  case first =>
    by_cases hv : v < 60
    · have o0 := or0_u8 ⟨v, by omega⟩
      simp only at o0
      go_wp2_with fail
      go_meet
      refine ⟨0, upd f d (v * 4), by go_num, HR.out.set d (v * 4) (by omega), HF.out.set _ _, (Kp.refl [b] w).setCell (Or.inl (by simp)) _, fun i hi => upd_other _ _ _ _ (by omega), by omega, Or.inl ⟨rfl, by omega, upd_same _ _ _⟩⟩
    · obtain ⟨X, hX⟩ : ∃ X : Nat, X = (Lib.bitLen v + 7) / 8 := ⟨_, rfl⟩
      obtain ⟨x1, x2, x3⟩ := len_fits v (by omega) (by omega)
      rw [← hX] at x1 x2 x3
      have o0 := or0_u8 ⟨59 + X, by omega⟩
      simp only [Int.natCast_add, Int.cast_ofNat_Int] at o0
      have hbl : Lib.bitLen v ≤ 32 := Lib.bitLen_le v 32 (by omega) (by omega)
      have eX : ((Lib.bitLen v : Nat) + 7 : Int) / 8 = (X : Int) := by omega
      have HX3 : Hid (v < 256 ^ X) := x3
      clear x3 hX
      go_wp2_with fail
      refine (bits_Len32 ((v : Nat) : Int) _ (by omega) (by omega)).mono ?_
      rintro e w2 ⟨rfl, rfl⟩
      rw [show ((v : Nat) : Int).toNat = v by omega]
      go_wp2_with fail
      rw [eX]
      have HS0 : Hid (HeadAt f (upd f d ((59 + X) * 4)) w2 (w2.setCell ⟨b, d, none⟩ (.int .u8 ((59 + (X : Int)) * 4))) b n d (v + 1) X 0) :=
        ⟨HR.out.set d ((59 + X) * 4) (by omega), HF.out.set _ _, (Kp.refl [b] w2).setCell (Or.inl (by simp)) _, fun i hi => upd_other _ _ _ _ (by omega), upd_same _ _ _, fun j hj => by omega⟩
      go_loopw [1, 7, 43] (fun dv nv iv wr => ∃ (k y : Nat) (g : Nat → Nat), k ≤ X ∧ iv = .int .i64 k ∧ dv = .int .i64 (d + 1 + k : Nat) ∧ nv = .int .u32 y ∧ y ≤ v ∧ y = v / 256 ^ k ∧ HeadAt f g w2 wr b n d (v + 1) X k) (fun _ _ iv _ => X - (intOf iv).toNat)
      case atStart => exact ⟨0, v, _, by omega, rfl, by go_num, rfl, by omega, by simp, HS0.out⟩
      case round =>
        clear HS0 o0 c0 f0
        obtain ⟨k, y, g, k1, rfl, rfl, rfl, y1, y2, hh⟩ := hrel
        have HH : Hid (HeadAt f g w2 wr b n d (v + 1) X k) := hh
        have HY : Hid (y = v / 256 ^ k) := y2
        have hk0 := hh.1.c (d + 1 + k) (by omega)
        have hk1 := hh.2.1 (d + 1 + k)
        clear hh y2
        by_cases hk : k < X
        · have b2 : ((d + 1 + k : Nat) : Int) < (n : Int) := by omega
          have hdk : decide ((k : Int) < (X : Int)) = true := by simp; omega
          go_wp2_with fail
          go_roundw
          case rel =>
            have HN := HH.out.next
            rw [show v + 1 - 1 = v by omega, ← HY.out, show ((y % 256 : Nat) : Int) = (y : Int) % 256 by omega] at HN
            refine ⟨k + 1, y / 256, _, by omega, by go_num, by go_num, by go_num, by omega, ?_, HN⟩
            rw [HY.out, pow_next]
          case measure => simp [intOf]; omega
        · have e : k = X := by omega
          subst e
          go_wp2_with fail
          go_meet
          refine ⟨k, g, rfl, HH.out.1, HH.out.2.1, HH.out.2.2.1, HH.out.2.2.2.1, by omega, Or.inr ⟨by omega, by omega, by omega, HX3.out, HH.out.2.2.2.2.1, HH.out.2.2.2.2.2⟩⟩
  case rest =>
    obtain ⟨x, g, rfl, h1, h2, h3, h4, h5⟩ := hcut
    have hx : x ≤ 4 ∧ (x = 0 ∨ 60 ≤ v) := by
      obtain ⟨_, h | h⟩ := h5
      · omega
      · omega
    have H1 : Hid (Row wc b n g) := h1
    have H2 : Hid (Free wc b) := h2
    have H3 : Hid (Kp [b] w wc) := h3
    have H4 : Hid (Only f g d (d + 1 + x)) := h4
    have H5 : Hid (IsHead g d (v + 1) x) := h5
    have HSc : Hid (Row wc s ns S) := HS.out.kept h3 (by simpa using hne)
    have b2 : (0 : Int) ≤ ((d + 1 + x : Nat) : Int) := by omega
    have b3 : ((d + 1 + x : Nat) : Int) ≤ (n : Int) := by omega
    have b4 : ¬ (n = d + 1 + x) := by omega
    clear h1 h2 h3 h4 h5 c0 f0 HR HF HS
    have hrun := run_copy_cells (P := Tryd.prog) wc 22 22 3 5 b (d + 1 + x) (n - (d + 1 + x)) (n - (d + 1 + x)) ⟨s, p, none⟩ (v + 1) c (lits S p (v + 1)) Tryd.underlying22 (by kernel_rfl)
      (by rw [lits_len]; exact (Nat.min_eq_left (by omega)).symm) (fun j u hj => by
        obtain ⟨j1, rfl⟩ := lits_at S p (v + 1) j u hj
        rw [show (⟨s, p, none⟩ : Addr).add j = ⟨s, p + j, none⟩ by simp [Addr.add]]; exact HSc.out.c (p + j) (by omega))
      (fun j hj => by rw [lits_len] at hj; rw [H1.out.c (d + 1 + x + j) (by omega)]; rfl) (fun j hj => H2.out _) (lits_one S p (v + 1))
    rw [lits_len] at hrun
    have HN : Hid (Wrote S f (blit g (d + 1 + x) (v + 1) S p) w (wc.setCells b (d + 1 + x) (lits S p (v + 1))) b n d p false 1 (d + 1 + x + (v + 1)) (p + (v + 1)) true) := by
      refine ⟨H1.out.laid _ _ _ _ HSc.out.r (by omega), H2.out.laid _ _ _, Kp.setCells _ _ H3.out (Or.inl (by simp)), fun i hi => ?_, ⟨_, Or.inl ⟨v + 1, rfl, ⟨x, ?_, rfl, fun k hk => ?_⟩, rfl, rfl⟩, rfl⟩⟩
      · rw [blit_out _ _ _ _ _ _ (by omega)]; exact H4.out i (by omega)
      · obtain ⟨a1, a2⟩ := H5.out
        refine ⟨a1, ?_⟩
        rcases a2 with ⟨a, b, c⟩ | ⟨a, b, c, e, q, r⟩
        · exact Or.inl ⟨a, b, by rw [blit_out _ _ _ _ _ _ (by simp only; omega)]; exact c⟩
        · exact Or.inr ⟨a, b, c, e, by rw [blit_out _ _ _ _ _ _ (by simp only; omega)]; exact q, fun k hk => by rw [blit_out _ _ _ _ _ _ (by simp only; omega)]; exact r k hk⟩
      · exact blit_in _ _ _ _ _ _ hk
    generalize wc.setCells b (d + 1 + x) (lits S p (v + 1)) = wz at hrun HN
    go_wp2_with fail
    go_ret
    exact ⟨d + 1 + x + (v + 1), _, by go_num, by omega, HN.out⟩

end Go.Proofs.Qxb6613208aDoor
