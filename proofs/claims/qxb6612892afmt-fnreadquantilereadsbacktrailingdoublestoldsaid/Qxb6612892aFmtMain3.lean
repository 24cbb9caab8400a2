/-
  THE WALK of FnReadQuantileReadsBackTrailingDoubles, the main way.
-/
import Derived.Test.Qxb6612892aFmtWalk3
namespace Go.Proofs.Qxb6612892aFmt
open Go.RowKit
open Go.Extern.Stop Go.Stop Go.Extern
set_option linter.unusedVariables false

set_option maxRecDepth 100000 in
set_option maxHeartbeats 2000000 in
theorem w3main (F : Interp) (n a v q x : Int) (bA bE : Nat) (s : ByteArray) (w : World) (hF : F.answers w.tape) (hs : s.size ≤ 65536)
    (h2 : (bA : Int) ≤ (bE : Int)) (h3 : (bE : Int) ≤ (s.size : Int)) (hn : (n == 0) = false) (ha : 0 ≤ a)
    (hq0 : 0 ≤ q) (hq1 : q ≤ 18446744073709551615) (hx0 : 0 ≤ x) (hx1 : x ≤ 18446744073709551615) :
    Calls Tryf.prog 3 #[.int .u64 n, .int .i64 a, .int .u64 v, .string s, .int .i64 bA, .int .i64 bE, .int .u64 q, .int .u64 x] w fun e w' => e = .returned (.bool true) ∧ Kp [] w w' := by
  have h1 : (0 : Int) ≤ (bA : Int) := by omega
  go_enter Tryf.func3, Tryf.ntmps3
  go_wp2_with (go_at_call 5; refine (c5s s _ _ _ _ _ _ _ _ hs).mono ?_; rintro e w0 ⟨rfl, rfl⟩)
  refine (app1 9 9 rfl q _ hq0 hq1).mono ?_
  rintro e w1 ⟨v1, rfl, ho1, hb1⟩
  go_wp2_with fail
  refine (app2 17 17 rfl x _ v1 _ w1 hb1.size ho1 (by simp [dbl_len]) hx0 hx1).mono ?_
  rintro e w2 ⟨v2, rfl, ho2, hb2⟩
  obtain ⟨t1, hcv1, ht1, ht1s⟩ := named ho2 (by simp)
  have HT1 : Hid (t1.data.toList = tailB q x) := ht1
  have HS1 : Hid (t1.size = 18) := by show t1.size = 18; rw [ht1s]; simp [dbl_len]
  have K2 : Kp [] w0 w2 := kp_of_below (hb1.trans hb2)
  have hs1 : t1.size ≤ 18 := by rw [HS1.out]; exact Nat.le_refl _
  clear ht1 ht1s ho1 ho2 hb1 hb2
  go_wp2_with fail
  refine (app1 17 17 rfl x _ hx0 hx1).mono ?_
  rintro e w3 ⟨v3, rfl, ho3, hb3⟩
  clear hcv1
  go_wp2_with fail
  refine (app2 9 9 rfl q _ v3 _ w3 hb3.size ho3 (by simp [dbl_len]) hq0 hq1).mono ?_
  rintro e w4 ⟨v4, rfl, ho4, hb4⟩
  obtain ⟨t2, hcv2, ht2, ht2s⟩ := named ho4 (by simp)
  have HT2 : Hid (t2.data.toList = swapB q x) := ht2
  have HS2 : Hid (t2.size = 18) := by show t2.size = 18; rw [ht2s]; simp [dbl_len]
  have K4 : Kp [] w0 w4 := K2.trans (kp_of_below (hb3.trans hb4))
  have hs2 : t2.size ≤ 18 := by rw [HS2.out]; exact Nat.le_refl _
  clear ht2 ht2s ho3 ho4 hb3 hb4 K2
  go_wp2_with fail
  refine (c8 n 2 v a 0 t1.size t1 _).mono ?_
  rintro e w5 ⟨rfl, k5⟩
  have K5 := K4.trans k5
  clear hcv2 k5 K4
  go_wp2_with fail
  refine (read_whole F n a v t1 _ q.toNat x.toNat (by rw [K5.tape]; exact hF) (by omega) (by rw [HT1.out]; exact rd_tail q x hq0 hq1 hx0 hx1 0 0)).mono ?_
  rintro e w6 ⟨rfl, k6⟩
  have K6 := K5.trans k6
  clear k6 K5
  go_wp2_with fail
  refine (c9 q _ hq0 hq1).mono ?_
  rintro e w6' ⟨rfl, rfl⟩
  go_wp2_with fail
  refine (c9 x _ hx0 hx1).mono ?_
  rintro e w6' ⟨rfl, rfl⟩
  go_wp2_with fail
  refine (c8 n 2 v a 0 t2.size t2 _).mono ?_
  rintro e w7 ⟨rfl, k7⟩
  have K7 := K6.trans k7
  clear k7 K6
  go_wp2_with fail
  refine (read_whole F n a v t2 _ q.toNat x.toNat (by rw [K7.tape]; exact hF) (by omega) (by rw [HT2.out]; exact rd_swap q x hq0 hq1 hx0 hx1 0 0)).mono ?_
  rintro e w8 ⟨rfl, k8⟩
  have K8 := K7.trans k8
  clear k8 K7
  go_wp2_with fail
  refine (c9 q _ hq0 hq1).mono ?_
  rintro e w8' ⟨rfl, rfl⟩
  go_wp2_with fail
  refine (c9 x _ hx0 hx1).mono ?_
  rintro e w8' ⟨rfl, rfl⟩
  go_wp2_with fail
  refine (c8 n 2 v a bA bE s _).mono ?_
  rintro e w9 ⟨rfl, k9⟩
  have K9 := K8.trans k9
  clear k9 K8
  go_wp2_with fail
  cases hrd : rd (rs s bA bE) 0 0 with
  | none =>
    refine (read_none F n a v bA bE s _ (by rw [K9.tape]; exact hF) (by omega) (by omega) (by omega) hrd).mono ?_
    rintro e w10 ⟨⟨q', x', y, rfl⟩, k10⟩
    have K10 := K9.trans k10
    clear k10 K9 hrd
    go_wp2_with fail
    go_quiet (fail)
    go_wp2_with fail
    have K11 : Kp [] w0 (w10.drewN nq) := K10.drewN nq
    have hlz := size_longer s t1 bE (by omega)
    generalize s.extract 0 bE ++ t1 ++ s.extract bE s.size = lg at hlz ⊢
    have hlz1 : lg.size ≤ 70000 := by omega
    have HLZ : Hid (bE + t1.size ≤ lg.size) := by show bE + t1.size ≤ lg.size; omega
    clear hlz K10
    refine (c8 n 2 v a bA ((bE : Int) + (t1.size : Int)) lg _).mono ?_
    rintro e w12 ⟨rfl, k12⟩
    have K12 := K11.trans k12
    clear k12 K11
    go_wp2_with fail
    rw [show ((bE : Int) + (t1.size : Int)) = ((bE + t1.size : Nat) : Int) from (Int.natCast_add _ _).symm]
    refine (read_any F n a v bA (bE + t1.size) lg _ (by rw [K12.tape]; exact hF) (by omega) HLZ.out (by omega)).mono ?_
    rintro e w13 ⟨⟨q2, x2, ev, rfl⟩, k13⟩
    have K13 := K12.trans k13
    clear k13 K12
    go_wp2_with fail
    go_ret
    exact ⟨rfl, K13⟩
  | some o =>
    obtain ⟨Q0, X0⟩ := o
    have HRD : Hid (rd (rs (s.extract 0 bE ++ t1 ++ s.extract bE s.size) bA (bE + t1.size)) 0 0 = some (q.toNat, x.toNat)) := by
      show rd (rs (s.extract 0 bE ++ t1 ++ s.extract bE s.size) bA (bE + t1.size)) 0 0 = some (q.toNat, x.toNat)
      rw [rs_longer s t1 bA bE (by omega) (by omega), HT1.out, rd_app _ _ _ _ _ _ hrd]
      exact rd_tail q x hq0 hq1 hx0 hx1 Q0 X0
    refine (read_some F n a v bA bE s _ Q0 X0 (by rw [K9.tape]; exact hF) (by omega) (by omega) (by omega) hrd).mono ?_
    rintro e w10 ⟨rfl, k10⟩
    have K10 := K9.trans k10
    clear k10 K9 hrd
    go_wp2_with fail
    go_quiet (fail)
    go_wp2_with fail
    have K11 : Kp [] w0 (w10.drewN nq) := K10.drewN nq
    have hlz := size_longer s t1 bE (by omega)
    generalize s.extract 0 bE ++ t1 ++ s.extract bE s.size = lg at hlz HRD ⊢
    have hlz1 : lg.size ≤ 70000 := by omega
    have HLZ : Hid (bE + t1.size ≤ lg.size) := by show bE + t1.size ≤ lg.size; omega
    clear hlz K10
    refine (c8 n 2 v a bA ((bE : Int) + (t1.size : Int)) lg _).mono ?_
    rintro e w12 ⟨rfl, k12⟩
    have K12 := K11.trans k12
    clear k12 K11
    go_wp2_with fail
    rw [show ((bE : Int) + (t1.size : Int)) = ((bE + t1.size : Nat) : Int) from (Int.natCast_add _ _).symm]
    refine (read_some F n a v bA (bE + t1.size) lg _ q.toNat x.toNat (by rw [K12.tape]; exact hF) (by omega) HLZ.out (by omega) HRD.out).mono ?_
    rintro e w13 ⟨rfl, k13⟩
    have K13 := K12.trans k13
    clear k13 K12
    go_wp2_with fail
    refine (c9 q _ hq0 hq1).mono ?_
    rintro e w13' ⟨rfl, rfl⟩
    go_wp2_with fail
    refine (c9 x _ hx0 hx1).mono ?_
    rintro e w13' ⟨rfl, rfl⟩
    go_wp2_with fail
    go_ret
    exact ⟨rfl, K13⟩

theorem w3 (F : Interp) (n a v bA bE q x : Int) (s : ByteArray) (w : World) (hF : F.answers w.tape) (hs : s.size ≤ maxLen)
    (hq0 : 0 ≤ q) (hq1 : q ≤ 18446744073709551615) (hx0 : 0 ≤ x) (hx1 : x ≤ 18446744073709551615) :
    Calls Tryf.prog 3 #[.int .u64 n, .int .i64 a, .int .u64 v, .string s, .int .i64 bA, .int .i64 bE, .int .u64 q, .int .u64 x] w fun e w' => e = .returned (.bool true) ∧ Kp [] w w' := by
  by_cases h : 65536 < s.size
  · exact w3early n a v bA bE q x s w hs h
  by_cases h2 : bA < 0 ∨ bE < bA ∨ (s.size : Int) < bE
  · exact w3out n a v bA bE q x s w (by omega) h2
  by_cases h3 : n = 0 ∨ a < 0
  · exact w3out2 n a v bA bE q x s w (by omega) (by omega) (by omega) (by omega) h3
  obtain ⟨A, rfl⟩ := Int.eq_ofNat_of_zero_le (show 0 ≤ bA by omega)
  obtain ⟨E, rfl⟩ := Int.eq_ofNat_of_zero_le (show 0 ≤ bE by omega)
  exact w3main F n a v q x A E s w hF (by omega) (by omega) (by omega) (beq_eq_false_iff_ne.2 (by omega)) (by omega) hq0 hq1 hx0 hx1

end Go.Proofs.Qxb6612892aFmt
