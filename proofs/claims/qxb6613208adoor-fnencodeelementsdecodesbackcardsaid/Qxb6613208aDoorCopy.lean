/-
  THE CONTRACT of emitCopy.
-/
import Derived.Test.Qxb6613208aDoorEmit
import Derived.Test.Qxb6613208aDoorPlain
namespace Go.Proofs.Qxb6613208aDoor
open Go.RowKit
set_option linter.unusedVariables false

/-- a call has written m elements at d .. e of block b -/
structure Wrote (S f g : Nat → Nat) (w w' : World) (b n d pos : Nat) (la : Bool) (m e pos' : Nat) (lb : Bool) : Prop where
  row : Row w' b n g
  free : Free w' b
  kp : Kp [b] w w'
  only : Only f g d e
  way : Steps S g m (d, pos, la) (e, pos', lb)

theorem Wrote.refl {S f : Nat → Nat} {w : World} {b n d pos : Nat} {la : Bool} (hR : Row w b n f) (hF : Free w b) : Wrote S f f w w b n d pos la 0 d pos la :=
  ⟨hR, hF, Kp.refl _ _, Only.refl _ _ _, rfl⟩

theorem Wrote.trans {S f g h : Nat → Nat} {w w' w'' : World} {b n d pos m e pos' m' e' pos'' : Nat} {la lb lc : Bool}
    (x : Wrote S f g w w' b n d pos la m e pos' lb) (y : Wrote S g h w' w'' b n e pos' lb m' e' pos'' lc) : Wrote S f h w w'' b n d pos la (m + m') e' pos'' lc := by
  have a := Steps.le x.way
  have b := Steps.le y.way
  exact ⟨y.row, y.free, x.kp.trans y.kp, x.only.trans y.only (by simp at a; omega) (by simp at b; omega), x.way.more y.way y.only⟩

theorem wrote_c2 {S f : Nat → Nat} {w w' : World} {b n d off k pos : Nat} {la : Bool} (hr : Row w' b n (putC2 f d off k)) (hf : Free w' b) (hk : Kp [b] w w')
    (h1 : 4 ≤ k) (h2 : k ≤ 64) (o1 : 1 ≤ off) (o2 : off ≤ 65535) (o3 : off ≤ pos) (hS : ∀ i, i < k → S (pos + i) = S (pos + i - off)) :
    Wrote S f (putC2 f d off k) w w' b n d pos la 1 (d + 3) (pos + k) false := by
  refine ⟨hr, hf, hk, fun i hi => ?_, ⟨_, Or.inr ⟨k, off, ⟨h1, h2, o1, o2, Or.inr ⟨rfl, ?_, ?_, ?_⟩⟩, o3, hS, rfl, rfl⟩, rfl⟩⟩
  · unfold putC2 put2
    rw [upd_other _ _ _ _ (by omega), upd_other _ _ _ _ (by omega), upd_other _ _ _ _ (by omega)]
  · unfold putC2 put2
    rw [upd_other _ _ _ _ (by omega), upd_other _ _ _ _ (by omega), upd_same]
  · unfold putC2 put2
    rw [upd_other _ _ _ _ (by omega), upd_same]
  · unfold putC2 put2
    exact upd_same _ (d + 1 + 1) _

/-- a copy of two bytes, at d -/
def putC1 (f : Nat → Nat) (d off len : Nat) : Nat → Nat := upd (upd f d (off / 256 * 32 + (len - 4) * 4 + 1)) (d + 1) (off % 256)

theorem wrote_c1 {S f : Nat → Nat} {w w' : World} {b n d off k pos : Nat} {la : Bool} (hr : Row w' b n (putC1 f d off k)) (hf : Free w' b) (hk : Kp [b] w w')
    (h1 : 4 ≤ k) (h2 : k ≤ 11) (o1 : 1 ≤ off) (o2 : off ≤ 2047) (o3 : off ≤ pos) (hS : ∀ i, i < k → S (pos + i) = S (pos + i - off)) :
    Wrote S f (putC1 f d off k) w w' b n d pos la 1 (d + 2) (pos + k) false := by
  refine ⟨hr, hf, hk, fun i hi => ?_, ⟨_, Or.inr ⟨k, off, ⟨h1, by omega, o1, by omega, Or.inl ⟨h2, o2, rfl, ?_, ?_⟩⟩, o3, hS, rfl, rfl⟩, rfl⟩⟩
  · unfold putC1
    rw [upd_other _ _ _ _ (by omega), upd_other _ _ _ _ (by omega)]
  · unfold putC1
    rw [upd_other _ _ _ _ (by omega), upd_same]
  · unfold putC1
    exact upd_same _ _ _

theorem or1_u8 : ∀ (a k : Fin 8), bits .or .u8 (bits .or .u8 ((a.val : Int) * 32) ((k.val : Int) * 4)) 1 = (a.val : Int) * 32 + (k.val : Int) * 4 + 1 := by decide +kernel

/-- how the loop stands -/
def CopyAt (S f : Nat → Nat) (w wr : World) (b n d pos len : Nat) (la : Bool) (d' l' : Nat) : Prop :=
  ∃ (g : Nat → Nat) (m : Nat) (lb : Bool), 4 ≤ l' ∧ l' ≤ len ∧ d' + l' ≤ d + len ∧ Wrote S f g w wr b n d pos la m d' (pos + (len - l')) lb

theorem CopyAt.next {S f : Nat → Nat} {w wr wx : World} {b n d pos len d' l' off k : Nat} {la : Bool}
    (hS : ∀ i, i < len → S (pos + i) = S (pos + i - off)) (o1 : 1 ≤ off) (o2 : off ≤ 65535) (o3 : off ≤ pos) (h1 : 4 ≤ k) (h2 : k ≤ 64) (h3 : k + 4 ≤ l')
    {g : Nat → Nat} {m : Nat} {lb : Bool} (q1 : l' ≤ len) (q2 : d' + l' ≤ d + len) (h : Wrote S f g w wr b n d pos la m d' (pos + (len - l')) lb)
    (hr : Row wx b n (putC2 g d' off k)) (hf : Free wx b) (hk : Kp [b] wr wx) : CopyAt S f w wx b n d pos len la (d' + 3) (l' - k) := by
  have := wrote_c2 (S := S) (pos := pos + (len - l')) (la := lb) hr hf hk h1 h2 o1 o2 (by omega) (fun i hi => by
    have := hS (len - l' + i) (by omega)
    rw [show pos + (len - l') + i = pos + (len - l' + i) by omega]
    exact this)
  have t := h.trans this
  rw [show pos + (len - l') + k = pos + (len - (l' - k)) by omega] at t
  exact ⟨_, _, false, by omega, by omega, by omega, t⟩

set_option maxHeartbeats 4000000 in
set_option maxRecDepth 100000 in
/-- emitCopy -/
theorem c18 (b d off len n pos : Nat) (S f : Nat → Nat) (la : Bool) (w : World) (hR : Row w b n f) (hF : Free w b) (hd : d + len ≤ n) (hM : n ≤ 1048576) (o1 : 1 ≤ off) (o2 : off ≤ 65535) (o3 : off ≤ pos) (hl : 4 ≤ len)
    (hS : ∀ i, i < len → S (pos + i) = S (pos + i - off)) :
    Calls Tryd.prog 18 #[.slice (some ⟨b, 0, none⟩) n n, .int .i64 d, .int .i64 off, .int .i64 len] w fun e w' => ∃ (e' m : Nat) (g : Nat → Nat), e = .returned (.int .i64 e') ∧ e' + 1 ≤ d + len ∧ Wrote S f g w w' b n d pos la m e' (pos + len) false := by
  have HS : Hid (∀ i, i < len → S (pos + i) = S (pos + i - off)) := hS
  have H0 : Hid (CopyAt S f w w b n d pos len la d len) := ⟨f, 0, la, by omega, by omega, by omega, by rw [Nat.sub_self, Nat.add_zero]; exact Wrote.refl hR hF⟩
  clear hR hF hS
  go_enter Tryd.func18, Tryd.ntmps18
  go_wp2_with fail
  go_loopw [1, 3] (fun dv lv wr => ∃ d' l' : Nat, dv = .int .i64 d' ∧ lv = .int .i64 l' ∧ CopyAt S f w wr b n d pos len la d' l') (fun _ lv _ => (intOf lv).toNat)
  case atStart => exact ⟨d, len, rfl, rfl, H0.out⟩
  case round =>
    clear H0
    obtain ⟨d', l', rfl, rfl, g, m, lb, q0, q1, q2, hw⟩ := hrel
    have HW : Hid (Wrote S f g w wr b n d pos la m d' (pos + (len - l')) lb) := hw
    clear hw
    by_cases h68 : 68 ≤ l'
    · go_wp2_with fail
      refine (c25 b d' off 64 n g _ HW.out.row HW.out.free (by omega) hM o2 (by omega) (by omega)).mono ?_
      rintro e w2 ⟨rfl, hr, hf, hk⟩
      have HN : Hid (CopyAt S f w w2 b n d pos len la (d' + 3) (l' - 64)) := CopyAt.next HS.out o1 o2 o3 (by omega) (by omega) (by omega) q1 q2 HW.out hr hf hk
      clear hr hf hk
      go_wp2_with fail
      go_roundw
      case rel => exact ⟨d' + 3, l' - 64, by go_num, by go_num, HN.out⟩
      case measure => simp [intOf]; omega
    · have h68' : l' ≤ 67 := by omega
      clear h68
      go_upto_if 18 with fail
      go_cut [1, 3] (fun dv lv wx => ∃ d' l' : Nat, dv = .int .i64 d' ∧ lv = .int .i64 l' ∧ l' ≤ 64 ∧ CopyAt S f w wx b n d pos len la d' l')
      case first =>
        by_cases h64 : 64 < l'
        · go_wp2_with fail
          refine (c25 b d' off 60 n g _ HW.out.row HW.out.free (by omega) hM o2 (by omega) (by omega)).mono ?_
          rintro e w2 ⟨rfl, hr, hf, hk⟩
          have HN : Hid (CopyAt S f w w2 b n d pos len la (d' + 3) (l' - 60)) := CopyAt.next HS.out o1 o2 o3 (by omega) (by omega) (by omega) q1 q2 HW.out hr hf hk
          clear hr hf hk
          go_wp2_with fail
          go_meet
          exact ⟨d' + 3, l' - 60, by go_num, by go_num, by omega, HN.out⟩
        · go_wp2_with fail
          go_meet
          exact ⟨d', l', rfl, rfl, by omega, ⟨g, m, lb, q0, q1, q2, HW.out⟩⟩
      case rest =>
      clear HW q0 q1 q2 h68'
      obtain ⟨d', l', rfl, rfl, h64, g, m, lb, q0, q1, q2, hw⟩ := hcut
      have HW : Hid (Wrote S f g w wc b n d pos la m d' (pos + (len - l')) lb) := hw
      have HSS : Hid (∀ i, i < l' → S (pos + (len - l') + i) = S (pos + (len - l') + i - off)) := fun i hi => by
        have := HS.out (len - l' + i) (by omega)
        rw [show pos + (len - l') + i = pos + (len - l' + i) by omega]
        exact this
      clear hw
      by_cases h1 : l' ≤ 11
      · by_cases h2 : off ≤ 2047
        · obtain ⟨k, rfl⟩ : ∃ k : Nat, l' = k + 4 := ⟨l' - 4, by omega⟩
          have c0 := HW.out.row.c d' (by omega)
          have c1 := HW.out.row.c (d' + 1) (by omega)
          have f0 := HW.out.free d'
          have f1 := HW.out.free (d' + 1)
          have b1 : (d' : Int) < (n : Int) := by omega
          have b2 : (d' : Int) + 1 < (n : Int) := by omega
          have or1 := or1_u8 ⟨off / 256, by omega⟩ ⟨k, by omega⟩
          simp only at or1
          have or2 : bits .or .u8 (bits .or .u8 ((off : Int) / 256 * 32) ((k : Int) * 4)) 1 = ((off / 256 * 32 + (k + 4 - 4) * 4 + 1 : Nat) : Int) := by
            rw [show (off : Int) / 256 = ((off / 256 : Nat) : Int) by omega, or1]; omega
          have HO : Hid (bits .or .u8 (bits .or .u8 ((off : Int) / 256 * 32) ((k : Int) * 4)) 1 = ((off / 256 * 32 + (k + 4 - 4) * 4 + 1 : Nat) : Int)) := or2
          clear or1 or2
          go_wp2_with fail
          go_ret
          rw [HO.out, show (off : Int) % 256 = ((off % 256 : Nat) : Int) by omega]
          have HN := HW.out.trans (wrote_c1 (off := off) (k := k + 4) ((HW.out.row.set d' (off / 256 * 32 + (k + 4 - 4) * 4 + 1) (by omega)).set (d' + 1) (off % 256) (by omega)) ((HW.out.free.set _ _).set _ _) (((Kp.refl [b] _).setCell (Or.inl (by simp)) _).setCell (Or.inl (by simp)) _) (by omega) h1 o1 h2 (by omega) HSS.out)
          rw [show pos + (len - (k + 4)) + (k + 4) = pos + len by omega] at HN
          exact ⟨d' + 2, _, _, by go_num, by omega, HN⟩
        · go_wp2_with fail
          refine (c25 b d' off l' n g _ HW.out.row HW.out.free (by omega) hM o2 (by omega) (by omega)).mono ?_
          rintro e w2 ⟨rfl, hr, hf, hk⟩
          have HN := HW.out.trans (wrote_c2 hr hf hk (by omega) (by omega) o1 o2 (by omega) HSS.out)
          rw [show pos + (len - l') + l' = pos + len by omega] at HN
          clear hr hf hk
          have HN2 : Hid _ := HN
          clear HN
          go_wp2_with fail
          go_ret
          exact ⟨d' + 3, _, _, rfl, by omega, HN2.out⟩
      · go_wp2_with fail
        refine (c25 b d' off l' n g _ HW.out.row HW.out.free (by omega) hM o2 (by omega) (by omega)).mono ?_
        rintro e w2 ⟨rfl, hr, hf, hk⟩
        have HN := HW.out.trans (wrote_c2 hr hf hk (by omega) (by omega) o1 o2 (by omega) HSS.out)
        rw [show pos + (len - l') + l' = pos + len by omega] at HN
        clear hr hf hk
        have HN2 : Hid _ := HN
        clear HN
        go_wp2_with fail
        go_ret
        exact ⟨d' + 3, _, _, rfl, by omega, HN2.out⟩

end Go.Proofs.Qxb6613208aDoor
