/-
  THE WALK of FnEncodeElementsDecodesBack.
-/
import Derived.Test.Qxb6613208aDoorDecn
namespace Go.Proofs.Qxb6613208aDoor
open Go.RowKit
set_option linter.unusedVariables false

set_option maxHeartbeats 16000000 in
set_option maxRecDepth 100000 in
theorem walk3 (a0 : Option Addr) (len0 cap0 : Nat) (z0 : List Int) (a1 : Int) (a2 : Option Addr) (len2 cap2 : Nat) (z2 : List Int) (a3 : Int) (w : World) (hT : Tab w) (w0 : IsRow .u8 w a0 len0 cap0 z0) (w1 : (Lit.int .i64 a1).wf = true) (w2 : IsRow .u8 w a2 len2 cap2 z2) (w3 : (Lit.int .i64 a3).wf = true) :
    Calls Tryd.prog 3 #[.slice a0 len0 cap0, .int .i64 a1, .slice a2 len2 cap2, .int .i64 a3] w fun e w' => e = .returned (.bool true) ∧ Kp [] w w' := by
  have HT : Hid (Tab w) := hT
  have W0 : Hid (IsRow .u8 w a0 len0 cap0 z0) := w0
  have W2 : Hid (IsRow .u8 w a2 len2 cap2 z2) := w2
  have hb1 : -9223372036854775808 ≤ a1 ∧ a1 ≤ 9223372036854775807 := by
    have e1 : IntKind.i64.min = -9223372036854775808 := rfl
    have e2 : IntKind.i64.max = 9223372036854775807 := rfl
    simpa [Lit.wf, e1, e2] using w1
  have hb3 : -9223372036854775808 ≤ a3 ∧ a3 ≤ 9223372036854775807 := by
    have e1 : IntKind.i64.min = -9223372036854775808 := rfl
    have e2 : IntKind.i64.max = 9223372036854775807 := rfl
    simpa [Lit.wf, e1, e2] using w3
  clear hT w0 w1 w2 w3
  go_enter Tryd.func3, Tryd.ntmps3
  go_wp2_with fail
  refine (c5 a0 a2 len0 cap0 len2 cap2 a1 a3 w).mono ?_
  rintro e wA ⟨⟨r, rfl⟩, rfl⟩
  cases r
  · go_wp2_with fail
    go_ret
    exact ⟨rfl, Kp.refl _ _⟩
  by_cases l0 : 1048576 < len0
  · go_wp2_with fail
    go_ret
    exact ⟨rfl, Kp.refl _ _⟩
  by_cases l2 : 1048576 < len2
  · go_wp2_with fail
    go_ret
    exact ⟨rfl, Kp.refl _ _⟩
  by_cases l3 : 1048576 < len0 + len2
  · go_wp2_with fail
    go_ret
    exact ⟨rfl, Kp.refl _ _⟩
  by_cases f0 : a3 < 0
  · go_wp2_with fail
    go_ret
    exact ⟨rfl, Kp.refl _ _⟩
  by_cases f1 : (len2 : Int) < a3
  · go_wp2_with fail
    go_ret
    exact ⟨rfl, Kp.refl _ _⟩
  obtain ⟨from0, rfl⟩ : ∃ k : Nat, a3 = (k : Int) := ⟨a3.toNat, by omega⟩
  have hneq := run_neq_nil wA a2 len2 cap2
  clear hb3 l0 l2 f0
  cases a2 with
  | none =>
    have hz2 : len2 = 0 ∧ cap2 = 0 := by
      rcases W2.out with ⟨_, h1, h2, _⟩ | ⟨y, h, _⟩
      · exact ⟨h1, h2⟩
      · cases h
    obtain ⟨rfl, rfl⟩ := hz2
    obtain rfl : from0 = 0 := by omega
    by_cases d0 : a1 < 0
    · go_wp2_with fail
      go_ret
      exact ⟨rfl, Kp.refl _ _⟩
    by_cases d1 : (len0 : Int) < a1
    · go_wp2_with fail
      go_ret
      exact ⟨rfl, Kp.refl _ _⟩
    obtain ⟨d, rfl⟩ : ∃ k : Nat, a1 = (k : Int) := ⟨a1.toNat, by omega⟩
    by_cases d2 : (len0 : Int) - (d : Int) < 32
    · go_wp2_with fail
      go_ret
      exact ⟨rfl, Kp.refl _ _⟩
    obtain ⟨b0, o0, rfl, hc0, hr0, hz0⟩ := came W0.out (by omega)
    have HR0 : Hid (RowO wA b0 o0 len0 (byteAt z0)) := hr0
    have HZ0 : Hid (∀ k, byteAt z0 k < 256) := hz0
    clear hr0 hz0
    go_wp2_with fail
    refine (c6 b0 o0 len0 cap0 (byteAt z0) wA HR0.out HZ0.out (by omega)).mono ?_
    rintro e wB ⟨rfl, k1, k2, k3⟩
    have HKB : Hid (Kp [] wA wB) := k3
    have HGB : Hid (Row wB wA.heap.size len0 (byteAt z0)) := k1
    clear k1 k2 k3 hneq
    go_wp2_with fail
    refine (c7n _ d wB).mono ?_
    rintro e wC ⟨rfl, k3⟩
    have HKB2 : Hid (Kp [] wB wC) := k3
    have HKC : Hid (Kp [] wA wC) := HKB.out.trans k3
    clear k3
    have HG : Hid (Row wC wA.heap.size len0 (byteAt z0)) := (HGB.out.kept HKB2.out (by simp))
    have HO : Hid (Only (byteAt z0) (byteAt z0) d d) := Only.refl _ _ _
    have q2 : (d : Int) ≤ (len0 : Int) := by omega
    have q3 : ¬ (len0 = d) := by omega
    go_wp2_with fail
    go_loopw [13] (fun kv wr => ∃ k : Nat, k ≤ d ∧ kv = .int .i64 k ∧ Kp [] wC wr) (fun kv _ => d - (intOf kv).toNat)
    case atStart => exact ⟨0, by omega, rfl, Kp.refl _ _⟩
    case round =>
      obtain ⟨k, k1, rfl, hkr⟩ := hrel
      have HKr : Hid (Kp [] wC wr) := hkr
      by_cases hk : k < d
      · have c1 := (HG.out.kept hkr (by simp)).c k (by omega)
        rw [HO.out k (Or.inl hk)] at c1
        have c2 := (HR0.out.kept (HKC.out.trans hkr)) k (by omega)
        have b1 : (k : Int) < (len0 : Int) := by omega
        have b2 : (0 : Int) ≤ (k : Int) := by omega
        clear hkr
        go_wp2_with fail
        go_quiet (fail)
        go_wp2_with fail
        go_roundw
        case rel => exact ⟨k + 1, by omega, by go_num, HKr.out.drewN _⟩
        case measure => simp [intOf]; omega
      · clear hkr
        go_wp2_with fail
        go_loopw [14] (fun kv wr => ∃ k : Nat, d ≤ k ∧ k ≤ len0 ∧ kv = .int .i64 k ∧ Kp [] wC wr) (fun kv _ => len0 - (intOf kv).toNat)
        case atStart => exact ⟨d, by omega, by omega, rfl, HKr.out⟩
        case round =>
          clear HKr hk
          obtain ⟨k, k0, k1, rfl, hkr⟩ := hrel
          have HKr : Hid (Kp [] wC wr) := hkr
          by_cases hk : k < len0
          · have c1 := (HG.out.kept hkr (by simp)).c k (by omega)
            rw [HO.out k (Or.inr k0)] at c1
            have c2 := (HR0.out.kept (HKC.out.trans hkr)) k (by omega)
            have b1 : (k : Int) < (len0 : Int) := by omega
            have b2 : (0 : Int) ≤ (k : Int) := by omega
            clear hkr
            go_wp2_with fail
            go_quiet (fail)
            go_wp2_with fail
            go_roundw
            case rel => exact ⟨k + 1, by omega, by omega, by go_num, HKr.out.drewN _⟩
            case measure => simp [intOf]; omega
          · clear hkr
            go_wp2_with fail
            refine (c8n _ _ _).mono ?_
            rintro e wD ⟨rfl, hkD⟩
            have HKD : Hid (Kp [] wA wD) := HKC.out.trans (HKr.out.trans hkD)
            clear hkD
            go_wp2_with fail
            go_ret
            exact ⟨rfl, HKD.out⟩
  | some x =>
    obtain ⟨wz, hrun, m1, m2, m3, m4⟩ := made len2 wA (by omega)
    obtain ⟨wy, hcp, y1, y2, y3⟩ := copied (c := cap2) W2.out m1 m2 m3 (Nat.le_refl _)
    have HS : Hid (Row wy wA.heap.size len2 (byteAt z2)) := y1
    have HKy : Hid (Kp [] wA wy) := y2
    have hsy : wA.heap.size < wy.heap.size := by omega
    clear m1 m2 m3 m4 y1 y2 y3
    by_cases d0 : a1 < 0
    · go_wp2_with fail
      go_ret
      exact ⟨rfl, HKy.out⟩
    by_cases d1 : (len0 : Int) < a1
    · go_wp2_with fail
      go_ret
      exact ⟨rfl, HKy.out⟩
    obtain ⟨d, rfl⟩ : ∃ k : Nat, a1 = (k : Int) := ⟨a1.toNat, by omega⟩
    by_cases d2 : (len0 : Int) - (d : Int) < (len2 : Int) - (from0 : Int) + ((len2 : Int) - (from0 : Int)) / 6 + 32
    · go_wp2_with fail
      go_ret
      exact ⟨rfl, HKy.out⟩
    obtain ⟨b0, o0, rfl, hc0, hr0, hz0⟩ := came W0.out (by omega)
    have HR0 : Hid (RowO wA b0 o0 len0 (byteAt z0)) := hr0
    have HZ0 : Hid (∀ k, byteAt z0 k < 256) := hz0
    clear hr0 hz0
    go_wp2_with fail
    refine (c6 b0 o0 len0 cap0 (byteAt z0) wy (HR0.out.kept HKy.out) HZ0.out (by omega)).mono ?_
    rintro e wB ⟨rfl, k1, k2, k3⟩
    have HB : Hid (Row wB wy.heap.size len0 (byteAt z0)) := k1
    have HF : Hid (Free wB wy.heap.size) := k2
    have HKB : Hid (Kp [] wy wB) := k3
    have hsB := k3.size
    have h1A := lt_of_cell (HT.out 0 (by omega))
    clear k1 k2 k3 hneq hrun hcp
    go_wp2_with fail
    refine (c7 wy.heap.size wA.heap.size d from0 len2 len0 (byteAt z2) (byteAt z0) wB HB.out HF.out (HS.out.kept HKB.out (by simp)) (by omega) (fun k hk => ((HKy.out.trans HKB.out).cell h1A (by simp)).trans (HT.out k hk)) (by omega) (by omega) (by omega) (by omega) (by omega) (by omega)).mono ?_
    rintro e wC ⟨e', m, g, lb, rfl, g1, g2, g3, g4, g5⟩
    have HG : Hid (Row wC wy.heap.size len0 g) := g1
    have HKC : Hid (Kp [] wA wC) := by
      refine ((HKy.out.trans HKB.out).any.trans g2).mono ?_
      intro k hk e
      simp at e
      omega
    have HW : Hid (Steps (byteAt z2) g m (d, from0, false) (e', len2, lb)) := g4
    have hle := Steps.le g4
    have hpos : d < e' ↔ from0 < len2 := by
      cases m with
      | zero => cases g4; omega
      | succ m => simp only at hle; omega
    simp only at hle
    have hee : e' ≤ len0 := by omega
    have HO : Hid (Only (byteAt z0) g d e') := g3
    have HSC : Hid (Row wC wA.heap.size len2 (byteAt z2)) := (HS.out.kept HKB.out (by simp)).kept g2 (by simp; omega)
    clear g1 g2 g3 g4
    have q1 : (d : Int) ≤ (e' : Int) := by omega
    have q2 : (e' : Int) ≤ (len0 : Int) := by omega
    have q3 : ¬ (len0 = d) := by omega
    go_wp2_with fail
    go_loopw [13] (fun kv wr => ∃ k : Nat, k ≤ d ∧ kv = .int .i64 k ∧ Kp [] wC wr) (fun kv _ => d - (intOf kv).toNat)
    case atStart => exact ⟨0, by omega, rfl, Kp.refl _ _⟩
    case round =>
      obtain ⟨k, k1, rfl, hkr⟩ := hrel
      have HKr : Hid (Kp [] wC wr) := hkr
      by_cases hk : k < d
      · have c1 := (HG.out.kept hkr (by simp)).c k (by omega)
        rw [HO.out k (Or.inl hk)] at c1
        have c2 := (HR0.out.kept (HKC.out.trans hkr)) k (by omega)
        have b1 : (k : Int) < (len0 : Int) := by omega
        have b2 : (0 : Int) ≤ (k : Int) := by omega
        clear hkr
        go_wp2_with fail
        go_quiet (fail)
        go_wp2_with fail
        go_roundw
        case rel => exact ⟨k + 1, by omega, by go_num, HKr.out.drewN _⟩
        case measure => simp [intOf]; omega
      · clear hkr
        go_wp2_with fail
        go_loopw [14] (fun kv wr => ∃ k : Nat, e' ≤ k ∧ k ≤ len0 ∧ kv = .int .i64 k ∧ Kp [] wC wr) (fun kv _ => len0 - (intOf kv).toNat)
        case atStart => exact ⟨e', by omega, by omega, rfl, HKr.out⟩
        case round =>
          clear HKr hk
          obtain ⟨k, k0, k1, rfl, hkr⟩ := hrel
          have HKr : Hid (Kp [] wC wr) := hkr
          by_cases hk : k < len0
          · have c1 := (HG.out.kept hkr (by simp)).c k (by omega)
            rw [HO.out k (Or.inr k0)] at c1
            have c2 := (HR0.out.kept (HKC.out.trans hkr)) k (by omega)
            have b1 : (k : Int) < (len0 : Int) := by omega
            have b2 : (0 : Int) ≤ (k : Int) := by omega
            clear hkr
            go_wp2_with fail
            go_quiet (fail)
            go_wp2_with fail
            go_roundw
            case rel => exact ⟨k + 1, by omega, by omega, by go_num, HKr.out.drewN _⟩
            case measure => simp [intOf]; omega
          · clear hkr
            go_wp2_with fail
            refine (c8 wy.heap.size wA.heap.size d (e' - d) (len0 - d) from0 len2 len0 m (byteAt z2) g lb _ (HG.out.kept HKr.out (by simp)) (HSC.out.kept HKr.out (by simp)) (by rw [show d + (e' - d) = e' by omega]; exact HW.out) (by omega) (by omega) (by omega)).mono ?_
            rintro e wD ⟨rfl, hkD⟩
            have HKD : Hid (Kp [] wA wD) := HKC.out.trans (HKr.out.trans hkD)
            clear hkD
            go_wp2_with fail
            go_ret
            exact ⟨rfl, HKD.out⟩

end Go.Proofs.Qxb6613208aDoor
