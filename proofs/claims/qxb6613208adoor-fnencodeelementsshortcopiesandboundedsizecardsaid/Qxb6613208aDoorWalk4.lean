/-
  THE WALK of FnEncodeElementsShortCopiesAndBoundedSize.
-/
import Derived.Test.Qxb6613208aDoorArgs
namespace Go.Proofs.Qxb6613208aDoor
open Go.RowKit
set_option linter.unusedVariables false

set_option maxHeartbeats 16000000 in
set_option maxRecDepth 100000 in
theorem walk4 (a0 : Option Addr) (len0 cap0 : Nat) (z0 : List Int) (a1 : Int) (a2 : Option Addr) (len2 cap2 : Nat) (z2 : List Int) (a3 : Int) (w : World) (hT : Tab w) (w0 : IsRow .u8 w a0 len0 cap0 z0) (w1 : (Lit.int .i64 a1).wf = true) (w2 : IsRow .u8 w a2 len2 cap2 z2) (w3 : (Lit.int .i64 a3).wf = true) :
    Calls Tryd.prog 4 #[.slice a0 len0 cap0, .int .i64 a1, .slice a2 len2 cap2, .int .i64 a3] w fun e w' => e = .returned (.bool true) ∧ Kp [] w w' := by
  have HT : Hid (Tab w) := hT
  have W0 : Hid (IsRow .u8 w a0 len0 cap0 z0) := w0
  have W2 : Hid (IsRow .u8 w a2 len2 cap2 z2) := w2
  have hb1 : -9223372036854775808 ≤ a1 ∧ a1 ≤ 9223372036854775807 := by
    have e1 : IntKind.i64.min = -9223372036854775808 := rfl
    have e2 : IntKind.i64.max = 9223372036854775807 := rfl
    simpa [Lit.wf, e1, e2] using w1
  have hb3 : -9223372036854775808 ≤ a3 ∧ a3 ≤ 9223372036854775807 := by
    have e1 : IntKind.i64.min = -9223372036854775808 := rfl
    have e2 : IntKind.i64.max = 9223372036854775807 := rfl
    simpa [Lit.wf, e1, e2] using w3
  clear hT w0 w1 w2 w3
  go_enter Tryd.func4, Tryd.ntmps4
  go_wp2_with fail
  refine (c9 a0 a2 len0 cap0 len2 cap2 a1 a3 w).mono ?_
  rintro e wA ⟨⟨r, rfl⟩, rfl⟩
  cases r
  · go_wp2_with fail
    go_ret
    exact ⟨rfl, Kp.refl _ _⟩
  by_cases l0 : 1048576 < len0
  · go_wp2_with fail
    go_ret
    exact ⟨rfl, Kp.refl _ _⟩
  by_cases l2 : 1048576 < len2
  · go_wp2_with fail
    go_ret
    exact ⟨rfl, Kp.refl _ _⟩
  by_cases l3 : 1048576 < len0 + len2
  · go_wp2_with fail
    go_ret
    exact ⟨rfl, Kp.refl _ _⟩
  by_cases f0 : a3 < 0
  · go_wp2_with fail
    go_ret
    exact ⟨rfl, Kp.refl _ _⟩
  by_cases f1 : (len2 : Int) < a3
  · go_wp2_with fail
    go_ret
    exact ⟨rfl, Kp.refl _ _⟩
  obtain ⟨from0, rfl⟩ : ∃ k : Nat, a3 = (k : Int) := ⟨a3.toNat, by omega⟩
  have hneq := run_neq_nil wA a2 len2 cap2
  clear hb3 l0 l2 f0
  cases a2 with
  | none =>
    have hz2 : len2 = 0 ∧ cap2 = 0 := by
      rcases W2.out with ⟨_, h1, h2, _⟩ | ⟨y, h, _⟩
      · exact ⟨h1, h2⟩
      · cases h
    obtain ⟨rfl, rfl⟩ := hz2
    obtain rfl : from0 = 0 := by omega
    by_cases d0 : a1 < 0
    · go_wp2_with fail
      go_ret
      exact ⟨rfl, Kp.refl _ _⟩
    by_cases d1 : (len0 : Int) < a1
    · go_wp2_with fail
      go_ret
      exact ⟨rfl, Kp.refl _ _⟩
    obtain ⟨d, rfl⟩ : ∃ k : Nat, a1 = (k : Int) := ⟨a1.toNat, by omega⟩
    by_cases d2 : (len0 : Int) - (d : Int) < 32
    · go_wp2_with fail
      go_ret
      exact ⟨rfl, Kp.refl _ _⟩
    obtain ⟨b0, o0, rfl, hc0, hr0, hz0⟩ := came W0.out (by omega)
    have HR0 : Hid (RowO wA b0 o0 len0 (byteAt z0)) := hr0
    have HZ0 : Hid (∀ k, byteAt z0 k < 256) := hz0
    clear hr0 hz0
    go_wp2_with fail
    refine (c6 b0 o0 len0 cap0 (byteAt z0) wA HR0.out HZ0.out (by omega)).mono ?_
    rintro e wB ⟨rfl, k1, k2, k3⟩
    have HKB : Hid (Kp [] wA wB) := k3
    clear k1 k2 k3 hneq
    go_wp2_with fail
    refine (c7n _ d wB).mono ?_
    rintro e wC ⟨rfl, k3⟩
    have HKC : Hid (Kp [] wA wC) := HKB.out.trans k3
    clear k3
    have q2 : (d : Int) ≤ (len0 : Int) := by omega
    have q3 : ¬ (len0 = d) := by omega
    go_wp2_with fail
    go_loop [14, 15, 16] (fun pv qv lv => pv = .int .i64 0 ∧ qv = .int .i64 0) (fun _ _ _ => 0)
    case atStart => exact ⟨rfl, rfl⟩
    case round =>
      obtain ⟨rfl, rfl⟩ := hrel
      go_wp2_with fail
      go_ret
      exact ⟨rfl, HKC.out⟩
  | some x =>
    obtain ⟨wz, hrun, m1, m2, m3, m4⟩ := made len2 wA (by omega)
    obtain ⟨wy, hcp, y1, y2, y3⟩ := copied (c := cap2) W2.out m1 m2 m3 (Nat.le_refl _)
    have HS : Hid (Row wy wA.heap.size len2 (byteAt z2)) := y1
    have HKy : Hid (Kp [] wA wy) := y2
    have hsy : wA.heap.size < wy.heap.size := by omega
    clear m1 m2 m3 m4 y1 y2 y3
    by_cases d0 : a1 < 0
    · go_wp2_with fail
      go_ret
      exact ⟨rfl, HKy.out⟩
    by_cases d1 : (len0 : Int) < a1
    · go_wp2_with fail
      go_ret
      exact ⟨rfl, HKy.out⟩
    obtain ⟨d, rfl⟩ : ∃ k : Nat, a1 = (k : Int) := ⟨a1.toNat, by omega⟩
    by_cases d2 : (len0 : Int) - (d : Int) < (len2 : Int) - (from0 : Int) + ((len2 : Int) - (from0 : Int)) / 6 + 32
    · go_wp2_with fail
      go_ret
      exact ⟨rfl, HKy.out⟩
    obtain ⟨b0, o0, rfl, hc0, hr0, hz0⟩ := came W0.out (by omega)
    have HR0 : Hid (RowO wA b0 o0 len0 (byteAt z0)) := hr0
    have HZ0 : Hid (∀ k, byteAt z0 k < 256) := hz0
    clear hr0 hz0
    go_wp2_with fail
    refine (c6 b0 o0 len0 cap0 (byteAt z0) wy (HR0.out.kept HKy.out) HZ0.out (by omega)).mono ?_
    rintro e wB ⟨rfl, k1, k2, k3⟩
    have HB : Hid (Row wB wy.heap.size len0 (byteAt z0)) := k1
    have HF : Hid (Free wB wy.heap.size) := k2
    have HKB : Hid (Kp [] wy wB) := k3
    have hsB := k3.size
    have h1A := lt_of_cell (HT.out 0 (by omega))
    clear k1 k2 k3 hneq hrun hcp
    go_wp2_with fail
    refine (c7 wy.heap.size wA.heap.size d from0 len2 len0 (byteAt z2) (byteAt z0) wB HB.out HF.out (HS.out.kept HKB.out (by simp)) (by omega) (fun k hk => ((HKy.out.trans HKB.out).cell h1A (by simp)).trans (HT.out k hk)) (by omega) (by omega) (by omega) (by omega) (by omega) (by omega)).mono ?_
    rintro e wC ⟨e', m, g, lb, rfl, g1, g2, g3, g4, g5⟩
    have HG : Hid (Row wC wy.heap.size len0 g) := g1
    have HKC : Hid (Kp [] wA wC) := by
      refine ((HKy.out.trans HKB.out).any.trans g2).mono ?_
      intro k hk e
      simp at e
      omega
    have HW : Hid (Steps (byteAt z2) g m (d, from0, false) (e', len2, lb)) := g4
    have hle := Steps.le g4
    have hpos : d < e' ↔ from0 < len2 := by
      cases m with
      | zero => cases g4; omega
      | succ m => simp only at hle; omega
    simp only at hle
    have hee : e' ≤ len0 := by omega
    clear g1 g2 g3 g4
    go_upto_region 18 with fail
    go_cut [111] (fun bv wx => bv = .bool false ∧ wx = wC)
    case first =>
      by_cases hn : from0 < len2
      · have hd1 : decide (d < e') = true := decide_eq_true (hpos.2 hn)
        go_wp2_with fail
        go_meet
        exact ⟨by simp, rfl⟩
      · have hd1 : decide (d < e') = false := decide_eq_false (fun h => hn (hpos.1 h))
        go_wp2_with fail
        go_meet
        exact ⟨by simp, rfl⟩
    case rest =>
    obtain ⟨rfl, rfl⟩ := hcut
    have q1 : (d : Int) ≤ (e' : Int) := by omega
    have q2 : (e' : Int) ≤ (len0 : Int) := by omega
    have q3 : ¬ (len0 = d) := by omega
    go_wp2_with fail
    go_loopw [14, 15, 16] (fun pv qv lv wr => ∃ (pos q m' : Nat) (la : Bool), pv = .int .i64 pos ∧ qv = .int .i64 q ∧ lv = .bool la ∧ q ≤ e' - d ∧ pos ≤ len2 ∧ Steps (byteAt z2) g m' (d + q, pos, la) (e', len2, lb) ∧ Kp [] wc wr) (fun _ qv _ _ => e' - d - (intOf qv).toNat)
    case atStart => exact ⟨from0, 0, m, false, rfl, rfl, rfl, by omega, by omega, HW.out, Kp.refl _ _⟩
    case round =>
      obtain ⟨pos, q, m', la, rfl, rfl, rfl, hq, hpo, hst, hkr⟩ := hrel
      have HKr : Hid (Kp [] wA wr) := HKC.out.trans hkr
      have HKr0 : Hid (Kp [] wc wr) := hkr
      have HRr : Hid (Row wr wy.heap.size len0 g) := HG.out.kept hkr (by simp)
      clear hkr
      by_cases hqe : q < e' - d
      · cases m' with
        | zero =>
          have e := congrArg Prod.fst (show (d + q, pos, la) = (e', len2, lb) from hst)
          simp only at e
          omega
        | succ m' =>
          obtain ⟨⟨u1, u2, u3⟩, hs1, hs2⟩ := hst
          have hle2 := Steps.le hs2
          simp only at hle2
          obtain ⟨T, hTg⟩ : ∃ T, T = g (d + q) := ⟨_, rfl⟩
          have hc0 := HRr.out.c (d + q) (by omega)
          have hr0 := HRr.out.r (d + q)
          rw [← hTg] at hc0 hr0
          have qb : (q : Int) < ((e' - d : Nat) : Int) := by omega
          have qb2 : (0 : Int) ≤ (q : Int) := by omega
          have a3 := and3_u8 ⟨T, hr0⟩
          simp only at a3
          rcases hs1 with ⟨l, hla, ⟨x', hh, hu, hb⟩, hp, hl⟩ | ⟨l, o, hc, ho, hss, hp, hl⟩
          · simp only at hla hh hu hb hp hl
            subst hla hp hl hu
            obtain ⟨tm, htm⟩ : ∃ tm, g (d + q) = tm * 4 := by
              rcases hh.2 with ⟨_, _, h⟩ | ⟨_, _, _, _, h, _⟩
              · exact ⟨_, h⟩
              · exact ⟨_, h⟩
            have hl1 := hh.1
            have HH : Hid (IsHead g (d + q) l x') := hh
            have HTM : Hid (g (d + q) = tm * 4) := htm
            have HS2 : Hid (Steps (byteAt z2) g m' (d + q + 1 + x' + l, pos + l, true) (e', len2, lb)) := hs2
            have sh : (T : Int) / 4 = (tm : Int) := by omega
            rw [show T % 4 = 0 by omega] at a3
            clear hs2 hh hb htm hTg
            go_wp2_with fail
            rw [show (q : Int) + 1 = ((q + 1 : Nat) : Int) by omega, show (len2 : Int) - (pos : Int) = ((len2 - pos : Nat) : Int) by omega]
            refine (c10 wy.heap.size d (e' - d) (len0 - d) q l x' tm (len2 - pos) len0 g _ HRr.out HH.out HTM.out (by omega) (by omega) (by omega) (by omega) (by omega)).mono ?_
            rintro e wD ⟨rfl, rfl⟩
            go_wp2_with fail
            go_roundw
            case rel =>
              refine ⟨pos + l, q + 1 + x' + l, m', true, by go_num, by go_num, rfl, by omega, by omega, ?_, HKr0.out⟩
              rw [show d + (q + 1 + x' + l) = d + q + 1 + x' + l by omega]
              exact HS2.out
            case measure => simp [intOf]; omega
          · simp only at hc ho hss hp hl
            subst hp hl
            have hc1 := hc
            obtain ⟨h1, h2, h3, h4, h5⟩ := hc1
            obtain ⟨r, rfl⟩ : ∃ r, u1 = d + r := ⟨u1 - d, by omega⟩
            have hqr : q < r := by omega
            have HC : Hid (IsCopy g (d + q) l o (d + r)) := hc
            have HS2 : Hid (Steps (byteAt z2) g m' (d + r, pos + l, false) (e', len2, lb)) := hs2
            obtain ⟨kd, hkd⟩ : ∃ kd, kd = T % 4 := ⟨_, rfl⟩
            obtain ⟨tm, htm⟩ : ∃ tm, tm = T / 4 := ⟨_, rfl⟩
            have hkd1 : 1 ≤ kd := by
              rcases h5 with ⟨_, _, _, h, _⟩ | ⟨_, h, _⟩
              · omega
              · omega
            have HKD : Hid (g (d + q) % 4 = kd ∧ g (d + q) / 4 = tm) := by rw [← hTg]; exact ⟨hkd.symm, htm.symm⟩
            have sh : (T : Int) / 4 = (tm : Int) := by omega
            rw [← hkd] at a3
            have hk0 : ((kd : Int) == 0) = false := by simp; omega
            clear hs2 hc hss htm hkd hTg h5
            go_wp2_with fail
            rw [show (q : Int) + 1 = ((q + 1 : Nat) : Int) by omega]
            refine (c11 wy.heap.size d (e' - d) (len0 - d) q l o r len0 kd tm g _ HRr.out HC.out HKD.out.1 HKD.out.2 (by omega) (by omega) (by omega)).mono ?_
            rintro e wD ⟨rfl, hkD⟩
            have HKD2 : Hid (Kp [] wc wD) := HKr0.out.trans hkD
            clear hkD
            go_wp2_with fail
            go_roundw
            case rel => exact ⟨pos + l, r, m', false, by go_num, by go_num, rfl, by omega, by omega, HS2.out, HKD2.out⟩
            case measure => simp [intOf]; omega
      · have hle2 := Steps.le hst
        simp only at hle2
        have hm0 : m' = 0 := by omega
        subst hm0
        have e := congrArg (fun x : Nat × Nat × Bool => x.2.1) (show (d + q, pos, la) = (e', len2, lb) from hst)
        simp only at e
        have hb : ((pos : Int) == (len2 : Int)) = true := by simp [e]
        clear hst e
        go_wp2_with fail
        go_ret
        exact ⟨rfl, HKr.out⟩

end Go.Proofs.Qxb6613208aDoor
