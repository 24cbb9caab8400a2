/-
  THE CONTRACT of encodeElements.
-/
import Derived.Test.Qxb6613208aDoorEnc
import Derived.Deep.CutBlock
namespace Go.Proofs.Qxb6613208aDoor
open Go.RowKit
set_option linter.unusedVariables false

set_option maxHeartbeats 16000000 in
set_option maxRecDepth 100000 in
/-- encodeElements -/
theorem c12 (b s t d from0 N n : Nat) (S f : Nat → Nat) (w : World) (hR : Row w b n f) (hF : Free w b) (hS : Row w s N S) (hT : Tbl0 w t) (hTab : Tab w) (hsb : s ≠ b) (hst : s ≠ t) (hbt : b ≠ t) (h1b : 1 ≠ b) (h1t : 1 ≠ t)
    (hfN : from0 ≤ N) (hN : N ≤ 1048576) (hn : n ≤ 1048576) (hroom : d + (N - from0) + (N - from0) / 6 + 32 ≤ n) :
    Calls Tryd.prog 12 #[.slice (some ⟨b, 0, none⟩) n n, .int .i64 d, .slice (some ⟨s, 0, none⟩) N N, .int .i64 from0, .pointer (some ⟨t, 0, none⟩)] w fun e w' => ∃ (e' m : Nat) (g : Nat → Nat) (lb : Bool), e = .returned (.int .i64 e') ∧ Row w' b n g ∧ Kp [b, t] w w' ∧ Only f g d e' ∧ Steps S g m (d, from0, false) (e', N, lb) ∧ 8 * e' ≤ 8 * d + 9 * (N - from0) + 8 := by
  have HR : Hid (Row w b n f) := hR
  have HF : Hid (Free w b) := hF
  have HS : Hid (Row w s N S) := hS
  have HT : Hid (Tbl0 w t) := hT
  have HTab : Hid (Tab w) := hTab
  have hbl := lt_of_cell (hR.c 0 (by omega))
  have h1l := lt_of_cell (hTab 0 (by omega))
  have htl := lt_of_cell hT.s
  clear hR hF hS hT hTab
  go_enter Tryd.func12, Tryd.ntmps12
  go_wp2_with fail
  refine (c13 t N w HT.out hN).mono ?_
  rintro e w1 ⟨rfl, ht1, hk1⟩
  have HT1 : Hid (Tbl w1 t from0) := ht1.up (by omega)
  have HK1 : Hid (Kp [t] w w1) := hk1
  clear ht1 hk1
  go_upto_block 0 with fail
  go_cut [11] (fun pv wx => Tbl wx t from0 ∧ Kp [t] w wx)
  case first =>
    go_wp2_with fail
    go_loopw [11] (fun pv wr => ∃ p : Nat, pv = .int .i64 p ∧ p ≤ from0 ∧ Tbl wr t from0 ∧ Kp [t] w wr) (fun pv _ => from0 - (intOf pv).toNat)
    case atStart =>
      refine ⟨from0 - 65535, ?_, by omega, HT1.out, HK1.out⟩
      rw [show max ((from0 : Int) - 65535) 0 = ((from0 - 65535 : Nat) : Int) by omega]
    case round =>
      clear HT1 HK1
      obtain ⟨p, rfl, hp, htr, hkr⟩ := hrel
      have HTr : Hid (Tbl wr t from0) := htr
      have HKr : Hid (Kp [t] w wr) := hkr
      clear htr hkr
      by_cases c1 : p < from0
      · by_cases c2 : p + 4 ≤ N
        · go_wp2_with fail
          refine (c14 t from0 s p N N S _ HTr.out (HS.out.kept HKr.out (by simpa using hst)) c2 (by omega) hN (by omega) (Ne.symm hst)).mono ?_
          rintro e w2 ⟨rfl, ht2, hk2⟩
          have HT2 : Hid (Tbl w2 t from0) := ht2
          have HK2 : Hid (Kp [t] w w2) := HKr.out.trans hk2
          clear ht2 hk2
          go_wp2_with fail
          go_roundw
          case rel => exact ⟨p + 1, by go_num, by omega, HT2.out, HK2.out⟩
          case measure => simp [intOf]; omega
        · go_wp2_with fail
          go_meet
          exact ⟨HTr.out, HKr.out⟩
      · go_wp2_with fail
        go_meet
        exact ⟨HTr.out, HKr.out⟩
  case rest =>
  clear HT1 HK1
  obtain ⟨htr, hkr⟩ := hcut
  have HTr : Hid (Tbl wc t from0) := htr
  have HE : Hid (EncAt S f w wc b t n d from0 d from0) := ⟨f, 0, false, HR.out.kept hkr (by simpa using hbt), HF.out.kept hkr (by simpa using hbt) hbl, hkr.mono (fun k _ e => by simp at e; simp [e]), Only.refl _ _ _, rfl, rfl, by omega, by omega, by omega⟩
  clear htr hkr
  go_wp2_with fail
  go_loopw [1, 12, 13, 14] (fun dv lv mv iv wr => ∃ dd lit mi i : Nat, dv = .int .i64 dd ∧ lv = .int .i64 lit ∧ mv = .int .i64 mi ∧ iv = .int .i64 i ∧ mi ≤ 1024 ∧ lit ≤ i ∧ lit ≤ N ∧ i ≤ N + 40 ∧ Tbl wr t i ∧ EncAt S f w wr b t n d from0 dd lit) (fun _ _ _ iv _ => N + 100 - (intOf iv).toNat)
  case atStart => exact ⟨d, from0, 0, from0, rfl, rfl, rfl, rfl, by omega, by omega, by omega, by omega, HTr.out, HE.out⟩
  case round =>
    clear HTr HE
    obtain ⟨dd, lit, mi, i, rfl, rfl, rfl, rfl, hmi, hli, hlN, hiN, htr, g, m, lb, e1, e2, e3, e4, e5, rfl, e6, e7, e8⟩ := hrel
    have HTr : Hid (Tbl wr t i) := htr
    have HG : Hid (Row wr b n g) := e1
    have HFr : Hid (Free wr b) := e2
    have HK : Hid (Kp [b, t] w wr) := e3
    have HO : Hid (Only f g d dd) := e4
    have HW : Hid (Steps S g m (d, from0, false) (dd, lit, false)) := e5
    have HSr : Hid (Row wr s N S) := HS.out.kept e3 (by simp; exact ⟨hsb, hst⟩)
    have HTabr : Hid (Tab wr) := fun k hk => (e3.cell h1l (by simp; exact ⟨h1b, h1t⟩)).trans (HTab.out k hk)
    have hbr : b < wr.heap.size := Nat.lt_of_lt_of_le hbl e3.size
    clear htr e1 e2 e3 e4 e5
    by_cases hi : i + 4 ≤ N
    · go_wp2_with fail
      refine (c15 t i s N N S _ HTr.out HSr.out hi (by omega) hN (Ne.symm hst)).mono ?_
      rintro e w2 ⟨r, rfl, hr, ht2, hk2⟩
      have HB : Hid (Back S i r) := hr
      have HT2 : Hid (Tbl w2 t i) := ht2
      have HK2 : Hid (Kp [t] wr w2) := hk2
      clear hr ht2 hk2
      by_cases hr0 : r = 0
      · subst hr0
        have HEr : Hid (EncAt S f w w2 b t n d from0 dd lit) := EncAt.kept ⟨g, m, false, HG.out, HFr.out, HK.out, HO.out, HW.out, rfl, e6, e7, e8⟩ HK2.out hbt hbr
        by_cases hm : mi < 1024
        · go_wp2_with fail
          go_roundw
          case rel => exact ⟨dd, lit, mi + 1, i + (1 + (mi + 1) / 32), rfl, rfl, by go_num, by go_num, by omega, by omega, by omega, by omega, HT2.out.up (by omega), HEr.out⟩
          case measure => simp [intOf]; omega
        · go_wp2_with fail
          go_roundw
          case rel => exact ⟨dd, lit, mi, i + (1 + mi / 32), rfl, rfl, by go_num, by go_num, by omega, by omega, by omega, by omega, HT2.out.up (by omega), HEr.out⟩
          case measure => simp [intOf]; omega
      · have hrb : 1 ≤ r ∧ r ≤ i ∧ r ≤ 65535 := by
          rcases HB.out with h | ⟨h1, h2, h3, _⟩
          · exact absurd h hr0
          · exact ⟨h1, h2, h3⟩
        obtain ⟨hrb1, hrb2, hrb3⟩ := hrb
        have hb0 : ((r : Int) == 0) = false := by simp; omega
        go_wp2_with fail
        refine (c16 s i r N N S _ (HSr.out.kept HK2.out (by simpa using hst)) (fun k hk => (HK2.out.cell (lt_of_cell (HTabr.out 0 (by omega))) (by simpa using h1t)).trans (HTabr.out k hk)) hi (by omega) hN hrb2).mono ?_
        rintro e w3 ⟨z, rfl, z1, z2, z3, hk3⟩
        have HM : Hid (Mat S N i r z) := mat_of HB.out hr0 z1 z2 z3
        have HT3 : Hid (Tbl w3 t i) := HT2.out.kept hk3 (by simp)
        have HK3 : Hid (Kp [t] wr w3) := HK2.out.trans hk3.any
        clear z3 hk3 HB HT2 HK2 hr0
        go_upto_region 17 with fail
        go_cut [79] (fun bv wx => bv = .bool (decide (2047 < r ∧ i + 5 ≤ N)) ∧ wx = w3)
        case first =>
          by_cases f1 : 2047 < r
          · by_cases f2 : i + 5 ≤ N
            · go_wp2_with fail
              go_meet
              exact ⟨by simp [f1, f2]; omega, rfl⟩
            · go_wp2_with fail
              go_meet
              exact ⟨by simp [f1, f2]; omega, rfl⟩
          · go_wp2_with fail
            go_meet
            exact ⟨by simp [f1], rfl⟩
        case rest =>
        obtain ⟨rfl, rfl⟩ := hcut
        go_upto_if 79 with fail
        go_cut [14, 15, 16] (fun iv rv zv wx => ∃ i' r' z' : Nat, iv = .int .i64 i' ∧ rv = .int .i64 r' ∧ zv = .int .i64 z' ∧ i ≤ i' ∧ Mat S N i' r' z' ∧ Tbl wx t z' ∧ Kp [t] wr wx)
        case first =>
          by_cases hfar : 2047 < r ∧ i + 5 ≤ N
          · rw [decide_eq_true hfar]
            obtain ⟨f1, f2⟩ := hfar
            go_wp2_with fail
            rw [show (i : Int) + 1 = ((i + 1 : Nat) : Int) by omega]
            refine (c15 t (i + 1) s N N S _ (HT3.out.up (by omega)) (HSr.out.kept HK3.out (by simpa using hst)) (by omega) (by omega) hN (Ne.symm hst)).mono ?_
            rintro e w4 ⟨r2, rfl, hr2, ht4, hk4⟩
            have HT4 : Hid (Tbl w4 t (i + 1)) := ht4
            have HK4 : Hid (Kp [t] wr w4) := HK3.out.trans hk4
            have HB2 : Hid (Back S (i + 1) r2) := hr2
            clear hr2 ht4 hk4
            by_cases h20 : r2 = 0
            · subst h20
              go_wp2_with fail
              go_meet
              exact ⟨i, r, z, rfl, rfl, rfl, by omega, HM.out, HT4.out.up (by omega), HK4.out⟩
            · have hrb2 : r2 ≤ i + 1 := by
                rcases HB2.out with h | ⟨h1, h2, h3, _⟩
                · exact absurd h h20
                · exact h2
              have hb2 : ((r2 : Int) == 0) = false := by simp; omega
              go_wp2_with fail
              rw [show (i : Int) + 1 = ((i + 1 : Nat) : Int) by omega]
              refine (c16 s (i + 1) r2 N N S _ (HSr.out.kept HK4.out (by simpa using hst)) (fun k hk => (HK4.out.cell (lt_of_cell (HTabr.out 0 (by omega))) (by simpa using h1t)).trans (HTabr.out k hk)) (by omega) (by omega) hN hrb2).mono ?_
              rintro e w5 ⟨y, rfl, y1, y2, y3, hk5⟩
              have HM2 : Hid (Mat S N (i + 1) r2 y) := mat_of HB2.out h20 y1 y2 y3
              have HT5 : Hid (Tbl w5 t (i + 1)) := HT4.out.kept hk5 (by simp)
              have HK5 : Hid (Kp [t] wr w5) := HK4.out.trans hk5.any
              clear y3 hk5 HB2 HT4 HK4 h20
              by_cases k1 : z + 1 < y
              · go_wp2_with fail
                go_meet
                exact ⟨i + 1, r2, y, by go_num, rfl, rfl, by omega, HM2.out, HT5.out.up (by omega), HK5.out⟩
              · by_cases k2 : z < y
                · by_cases k3 : r2 ≤ 2047
                  · go_wp2_with fail
                    go_meet
                    exact ⟨i + 1, r2, y, by go_num, rfl, rfl, by omega, HM2.out, HT5.out.up (by omega), HK5.out⟩
                  · go_wp2_with fail
                    go_meet
                    exact ⟨i, r, z, rfl, rfl, rfl, by omega, HM.out, HT5.out.up (by omega), HK5.out⟩
                · go_wp2_with fail
                  go_meet
                  exact ⟨i, r, z, rfl, rfl, rfl, by omega, HM.out, HT5.out.up (by omega), HK5.out⟩
          · rw [decide_eq_false hfar]
            clear hfar
            go_wp2_with fail
            go_meet
            exact ⟨i, r, z, rfl, rfl, rfl, by omega, HM.out, HT3.out.up (by omega), HK3.out⟩
        case rest =>
        clear HM HT3 HK3 HTr hb0 hrb1 hrb2 hrb3 z1 z2
        obtain ⟨i', r', z', rfl, rfl, rfl, hii, hm, ht3, hk3⟩ := hcut
        obtain ⟨m1, m2, m3, m4, m5, m6⟩ := hm
        have HM : Hid (∀ k, i' ≤ k → k < z' → S k = S (k - r')) := m6
        have HT3 : Hid (Tbl wc t z') := ht3
        have HK3 : Hid (Kp [t] wr wc) := hk3
        clear m6 ht3 hk3
        have HSc : Hid _ := HSr.out.kept HK3.out (by simpa using hst)
        go_upto_block 4 with fail
        go_cut [19] (fun sv wx => ∃ st : Nat, sv = .int .i64 st ∧ lit ≤ st ∧ st ≤ i' ∧ Mat S N st r' z' ∧ Kp [] wc wx)
        case first =>
          go_wp2_with fail
          go_loopw [19] (fun sv wx => ∃ st : Nat, sv = .int .i64 st ∧ lit ≤ st ∧ st ≤ i' ∧ r' ≤ st ∧ (∀ k, st ≤ k → k < z' → S k = S (k - r')) ∧ Kp [] wc wx) (fun sv _ => (intOf sv).toNat)
          case atStart => exact ⟨i', rfl, by omega, by omega, m2, HM.out, Kp.refl _ _⟩
          case round =>
            obtain ⟨st, rfl, s1, s2, s3, s4, s5⟩ := hrel
            have HM4 : Hid (∀ k, st ≤ k → k < z' → S k = S (k - r')) := s4
            have HK4 : Hid _ := s5
            have HSw : Hid (Row wr s N S) := HSc.out.kept s5 (by simp)
            clear s4 s5
            by_cases g1 : lit < st
            · by_cases g2 : r' < st
              · obtain ⟨a, ha⟩ : ∃ a, st = a + 1 := ⟨st - 1, by omega⟩
                obtain ⟨q, hq⟩ : ∃ q, a = q + r' := ⟨a - r', by omega⟩
                have c1 := HSw.out.c a (by omega)
                have c2 := HSw.out.c q (by omega)
                have d1 : decide (lit < st) = true := decide_eq_true g1
                have d2 : decide (r' < st) = true := decide_eq_true g2
                have b1 : (0 : Int) ≤ (a : Int) := by omega
                have b2 : (a : Int) < (N : Int) := by omega
                have b3 : (0 : Int) ≤ (q : Int) := by omega
                have b4 : (q : Int) < (N : Int) := by omega
                have ew1 : IntKind.i64.wrap ((st : Int) - 1) = (a : Int) := by rw [IntWalk.i64_left, IntWalk.wrap64_in _ (by omega)]; omega
                have ew2 : IntKind.i64.wrap ((a : Int) - (r' : Int)) = (q : Int) := by rw [IntWalk.i64_left, IntWalk.wrap64_in _ (by omega)]; omega
                have HQ : Hid (a = q + r' ∧ st = a + 1) := ⟨hq, ha⟩
                have a1 : lit ≤ a := by omega
                have a2 : a ≤ i' := by omega
                have a3 : r' ≤ a := by omega
                have a4 : a < st := by omega
                clear hq ha
                by_cases hc : S a = S q
                · have hb : (((S a : Nat) : Int) == ((S q : Nat) : Int)) = true := by simp [hc]
                  have HC : Hid (S a = S q) := hc
                  clear hc
                  go_wp2_with fail
                  go_quiet (fail)
                  go_wp2_with fail
                  go_roundw
                  case rel =>
                    refine ⟨a, by go_num, a1, a2, a3, fun k k1 k2 => ?_, HK4.out.drewN _⟩
                    obtain ⟨q1, q2⟩ := HQ.out
                    by_cases k3 : k = a
                    · rw [k3, show a - r' = q by omega]; exact HC.out
                    · exact HM4.out k (by omega) k2
                  case measure => simp [intOf]; omega
                · have hb : (((S a : Nat) : Int) == ((S q : Nat) : Int)) = false := by simp; omega
                  clear hc
                  go_wp2_with fail
                  go_quiet (fail)
                  go_wp2_with fail
                  go_meet
                  exact ⟨st, rfl, by omega, by omega, ⟨m1, by omega, m3, by omega, m5, HM4.out⟩, HK4.out.drewN _⟩
              · have d1 : decide (lit < st) = true := decide_eq_true g1
                have d2 : decide (r' < st) = false := decide_eq_false g2
                clear g2
                go_wp2_with fail
                go_quiet (fail)
                go_wp2_with fail
                go_meet
                exact ⟨st, rfl, by omega, by omega, ⟨m1, by omega, m3, by omega, m5, HM4.out⟩, HK4.out.drewN _⟩
            · have d1 : decide (lit < st) = false := decide_eq_false g1
              clear g1
              go_wp2_with fail
              go_quiet (fail)
              go_wp2_with fail
              go_meet
              exact ⟨st, rfl, by omega, by omega, ⟨m1, by omega, m3, by omega, m5, HM4.out⟩, HK4.out.drewN _⟩
        case rest =>
        clear HM HSc
        obtain ⟨st, rfl, s1, s2, ⟨q1, q2, q3, q4, q5, q6⟩, s5⟩ := hcut
        have HMM : Hid (∀ k, st ≤ k → k < z' → S k = S (k - r')) := q6
        have HT4 : Hid (Tbl wc t z') := HT3.out.kept s5 (by simp)
        have HK4 : Hid (Kp [t] wr wc) := HK3.out.trans s5.any
        have HG4 : Hid (Row wc b n g) := HG.out.kept HK4.out (by simpa using hbt)
        have HF4 : Hid (Free wc b) := HFr.out.kept HK4.out (by simpa using hbt) hbr
        have HS4 : Hid (Row wc s N S) := HSr.out.kept HK4.out (by simpa using hst)
        have HKw : Hid (Kp [b, t] w wc) := HK.out.trans (HK4.out.mono (fun k _ e => by simp at e; simp [e]))
        clear q6 s5 HT3 HK3 HG HFr HSr HK HTabr m1 m2 m3 m5 hbr
        have b1 : (lit : Int) ≤ (st : Int) := by omega
        have b2 : (st : Int) ≤ (N : Int) := by omega
        have b3 : ¬ (N = lit) := by omega
        go_wp2_with fail
        refine (c17_all b s dd (st - lit) lit n N _ _ S g _ HG4.out HF4.out HS4.out hsb (fun _ => rfl) (by omega) (by omega) hn).mono ?_
        rintro e w6 ⟨d1, mm1, g1, la, rfl, h1, h2⟩
        have HX : Hid (Wrote S g g1 wc w6 b n dd lit false mm1 d1 (lit + (st - lit)) la) := h2
        clear h2
        go_wp2_with fail
        rw [show (z' : Int) - (st : Int) = ((z' - st : Nat) : Int) by omega]
        refine (c18 b d1 r' (z' - st) n st S g1 la _ HX.out.row HX.out.free (by omega) hn q1 q3 q2 (by omega) (fun k hk => HMM.out (st + k) (by omega) (by omega))).mono ?_
        rintro e w7 ⟨d2, mm2, g2, rfl, h3, h4⟩
        have HE7 : Hid (EncAt S f w w7 b t n d from0 d2 z') := EncAt.next HKw.out HO.out HW.out e6 e7 e8 s1 q4 HX.out h1 h4 h3
        have HT7 : Hid (Tbl w7 t z') := (HT4.out.kept HX.out.kp (by simpa using Ne.symm hbt)).kept h4.kp (by simpa using Ne.symm hbt)
        have HS7 : Hid (Row w7 s N S) := (HS4.out.kept HX.out.kp (by simpa using hsb)).kept h4.kp (by simpa using hsb)
        have hb7 : b < w7.heap.size := lt_of_cell (h4.row.c 0 (by omega))
        clear h4 HX HMM HT4 HG4 HF4 HS4 HKw HK4 b1 b2 b3
        by_cases hz : z' + 3 ≤ N
        · go_wp2_with fail
          rw [show (z' : Int) - 1 = ((z' - 1 : Nat) : Int) by omega]
          refine (c14 t z' s (z' - 1) N N S _ HT7.out HS7.out (by omega) (by omega) hN (by omega) (Ne.symm hst)).mono ?_
          rintro e w8 ⟨rfl, ht8, hk8⟩
          have HT8 : Hid (Tbl w8 t z') := ht8
          have HE8 : Hid (EncAt S f w w8 b t n d from0 d2 z') := HE7.out.kept hk8 hbt hb7
          clear ht8 hk8
          go_wp2_with fail
          go_roundw
          case rel =>
            exact ⟨d2, z', 0, z', rfl, rfl, rfl, rfl, by omega, by omega, by omega, by omega, HT8.out, HE8.out⟩
          case measure => simp [intOf]; omega
        · go_wp2_with fail
          go_roundw
          case rel =>
            exact ⟨d2, z', 0, z', rfl, rfl, rfl, rfl, by omega, by omega, by omega, by omega, HT7.out, HE7.out⟩
          case measure => simp [intOf]; omega
    · by_cases hle : N = lit
      · subst hle
        go_wp2_with fail
        refine (c17_all b s dd 0 N n N _ _ S g _ HG.out HFr.out HSr.out hsb (fun h => absurd rfl h) (by omega) (by omega) hn).mono ?_
        rintro e w2 ⟨e', m', g', lb, rfl, h1, h2⟩
        have HN : Hid (Wrote S g g' wr w2 b n dd N false m' e' (N + 0) lb) := h2
        clear h2
        go_wp2_with fail
        go_ret
        have hw := Steps.le HN.out.way
        simp only at hw
        exact ⟨e', m + m', g', lb, rfl, HN.out.row, HK.out.trans (HN.out.kp.mono (fun k _ e => by simp at e; simp [e])), HO.out.trans HN.out.only e8 (by omega), HW.out.more HN.out.way HN.out.only, by omega⟩
      · have b1 : (lit : Int) ≤ (N : Int) := by omega
        go_wp2_with fail
        refine (c17_all b s dd (N - lit) lit n N _ _ S g _ HG.out HFr.out HSr.out hsb (fun h => rfl) (by omega) (by omega) hn).mono ?_
        rintro e w2 ⟨e', m', g', lb, rfl, h1, h2⟩
        rw [show lit + (N - lit) = N by omega] at h2
        have HN : Hid (Wrote S g g' wr w2 b n dd lit false m' e' N lb) := h2
        clear h2
        go_wp2_with fail
        go_ret
        have hw := Steps.le HN.out.way
        simp only at hw
        exact ⟨e', m + m', g', lb, rfl, HN.out.row, HK.out.trans (HN.out.kp.mono (fun k _ e => by simp at e; simp [e])), HO.out.trans HN.out.only e8 (by omega), HW.out.more HN.out.way HN.out.only, by omega⟩

end Go.Proofs.Qxb6613208aDoor
