/-
  THE WALK of FnReadQuantileRefusesWhatIsNotItsShape, the main way.
-/
import Derived.Test.Qxb6612892aFmtWalk4
namespace Go.Proofs.Qxb6612892aFmt
open Go.RowKit
open Go.Extern.Stop Go.Stop Go.Extern
set_option linter.unusedVariables false
attribute [local go_sem] Tryf.call11

set_option maxRecDepth 100000 in
set_option maxHeartbeats 4000000 in
theorem w4main (F : Interp) (n wi a v q : Int) (bA bE : Nat) (s : ByteArray) (w : World) (hF : F.answers w.tape) (hs : s.size ≤ 65536)
    (h2 : (bA : Int) ≤ (bE : Int)) (h3 : (bE : Int) ≤ (s.size : Int)) (hn : (n == 0) = false) (ha : 0 ≤ a)
    (hq0 : 0 ≤ q) (hq1 : q ≤ 18446744073709551615) (hwi : wi = 0 ∨ wi = 1 ∨ wi = 5) :
    Calls Tryf.prog 4 #[.int .u64 n, .int .u64 wi, .int .i64 a, .int .u64 v, .string s, .int .i64 bA, .int .i64 bE, .int .u64 q] w fun e w' => e = .returned (.bool true) ∧ Kp [] w w' := by
  have h1 : (0 : Int) ≤ (bA : Int) := by omega
  have hw2 : (wi != 2) = true := by rw [bne_iff_ne]; omega
  have HW2 : Hid ((wi != 2) = true) := hw2
  clear hw2
  rcases hwi with rfl | rfl | rfl
  all_goals
    go_enter Tryf.func4, Tryf.ntmps4
    go_wp2_with (go_at_call 10; refine (c10s s _ _ _ _ _ _ _ _ hs).mono ?_; rintro e w0 ⟨rfl, rfl⟩)
    refine (c8 n _ v a bA bE s _).mono ?_
    rintro e w1 ⟨rfl, K1⟩
    go_wp2_with fail
    refine (read_wire F n _ a v bA bE s _ (by rw [K1.tape]; exact hF) HW2.out).mono ?_
    rintro e w2 ⟨⟨y, rfl⟩, k2⟩
    have K2 := K1.trans k2
    clear k2 K1
    go_wp2_with fail
    refine (app1 9 9 rfl q _ hq0 hq1).mono ?_
    rintro e w3 ⟨v3, rfl, ho3, hb3⟩
    obtain ⟨t1, hcv1, ht1, ht1s⟩ := named ho3 (by simp)
    have HT1 : Hid (t1.data.toList = 9 :: dbl q 8) := ht1
    have hs1 : t1.size ≤ 18 := by rw [ht1s]; simp [dbl_len]
    have K3 : Kp [] w0 w3 := K2.trans (kp_of_below hb3)
    clear ht1 ht1s ho3 hb3 K2
    go_wp2_with fail
    refine (c8 n 2 v a 0 t1.size t1 _).mono ?_
    rintro e w4 ⟨rfl, k4⟩
    have K4 := K3.trans k4
    clear hcv1 k4 K3
    go_wp2_with fail
    refine (read_whole F n a v t1 _ q.toNat 0 (by rw [K4.tape]; exact hF) (by omega) (by rw [HT1.out]; exact rd_one q hq0 hq1 0 0)).mono ?_
    rintro e w5 ⟨rfl, k5⟩
    have K5 := K4.trans k5
    clear k5 K4
    go_wp2_with fail
    refine (c9 q _ hq0 hq1).mono ?_
    rintro e w5' ⟨rfl, rfl⟩
    go_wp2_with fail
    refine (c8 n 2 v a bA bE s _).mono ?_
    rintro e w6 ⟨rfl, k6⟩
    have K6 := K5.trans k6
    clear k6 K5
    go_wp2_with fail
    have HL1 : Hid (∀ o, rd (rs s bA bE) 0 0 = some o → rd (rs (s.extract 0 bE ++ ⟨#[8, 1]⟩ ++ s.extract bE s.size) bA (bE + 2)) 0 0 = none) := by
      rintro ⟨Q0, X0⟩ ho
      have := rs_longer s ⟨#[8, 1]⟩ bA bE (by omega) (by omega)
      rw [show (ByteArray.mk #[8, 1]).size = 2 from rfl] at this
      rw [this, rd_app _ _ _ _ _ _ ho]
      exact rd_varint Q0 X0
    have HL2 : Hid (∀ o, rd (rs s bA bE) 0 0 = some o → rd (rs (s.extract 0 bE ++ ⟨#[21, 0, 0, 0, 0]⟩ ++ s.extract bE s.size) bA (bE + 5)) 0 0 = none) := by
      rintro ⟨Q0, X0⟩ ho
      have := rs_longer s ⟨#[21, 0, 0, 0, 0]⟩ bA bE (by omega) (by omega)
      rw [show (ByteArray.mk #[21, 0, 0, 0, 0]).size = 5 from rfl] at this
      rw [this, rd_app _ _ _ _ _ _ ho]
      exact rd_fixed32 Q0 X0
    have HZ1 : Hid ((s.extract 0 bE ++ ⟨#[8, 1]⟩ ++ s.extract bE s.size).size = s.size + 2) := size_longer s ⟨#[8, 1]⟩ bE (by omega)
    have HZ2 : Hid ((s.extract 0 bE ++ ⟨#[21, 0, 0, 0, 0]⟩ ++ s.extract bE s.size).size = s.size + 5) := size_longer s ⟨#[21, 0, 0, 0, 0]⟩ bE (by omega)
    cases hrd : rd (rs s bA bE) 0 0 with
    | none =>
      refine (read_none F n a v bA bE s _ (by rw [K6.tape]; exact hF) (by omega) (by omega) (by omega) hrd).mono ?_
      rintro e w10 ⟨⟨q', x', y', rfl⟩, k10⟩
      have K10 := K6.trans k10
      clear k10 K6 hrd HL1 HL2
      go_wp2_with fail
      go_quiet (fail)
      go_wp2_with fail
      have K11 : Kp [] w0 (w10.drewN nq) := K10.drewN nq
      generalize s.extract 0 bE ++ ⟨#[8, 1]⟩ ++ s.extract bE s.size = lg at HZ1 ⊢
      clear K10
      refine (c8 n 2 v a bA ((bE : Int) + 2) lg _).mono ?_
      rintro e w12 ⟨rfl, k12⟩
      have K12 := K11.trans k12
      clear k12 K11
      go_wp2_with fail
      rw [show ((bE : Int) + 2) = ((bE + 2 : Nat) : Int) by omega]
      refine (read_any F n a v bA (bE + 2) lg _ (by rw [K12.tape]; exact hF) (by omega) (by rw [HZ1.out]; omega) (by rw [HZ1.out]; omega)).mono ?_
      rintro e w13 ⟨⟨q2, x2, ev, rfl⟩, k13⟩
      have K13 := K12.trans k13
      clear k13 K12
      go_wp2_with fail
      go_quiet (fail)
      go_wp2_with fail
      have K14 : Kp [] w0 (w13.drewN nq) := K13.drewN nq
      generalize s.extract 0 bE ++ ⟨#[21, 0, 0, 0, 0]⟩ ++ s.extract bE s.size = lg2 at HZ2 ⊢
      clear K13
      refine (c8 n 2 v a bA ((bE : Int) + 5) lg2 _).mono ?_
      rintro e w15 ⟨rfl, k15⟩
      have K15 := K14.trans k15
      clear k15 K14
      go_wp2_with fail
      rw [show ((bE : Int) + 5) = ((bE + 5 : Nat) : Int) by omega]
      refine (read_any F n a v bA (bE + 5) lg2 _ (by rw [K15.tape]; exact hF) (by omega) (by rw [HZ2.out]; omega) (by rw [HZ2.out]; omega)).mono ?_
      rintro e w16 ⟨⟨q3, x3, ev3, rfl⟩, k16⟩
      have K16 := K15.trans k16
      clear k16 K15
      go_wp2_with fail
      go_ret
      exact ⟨rfl, K16⟩
    | some o =>
      have HR1 : Hid (rd (rs (s.extract 0 bE ++ ⟨#[8, 1]⟩ ++ s.extract bE s.size) bA (bE + 2)) 0 0 = none) := HL1.out o hrd
      have HR2 : Hid (rd (rs (s.extract 0 bE ++ ⟨#[21, 0, 0, 0, 0]⟩ ++ s.extract bE s.size) bA (bE + 5)) 0 0 = none) := HL2.out o hrd
      refine (read_some F n a v bA bE s _ o.1 o.2 (by rw [K6.tape]; exact hF) (by omega) (by omega) (by omega) hrd).mono ?_
      rintro e w10 ⟨rfl, k10⟩
      have K10 := K6.trans k10
      clear k10 K6 hrd HL1 HL2
      go_wp2_with fail
      go_quiet (fail)
      go_wp2_with fail
      have K11 : Kp [] w0 (w10.drewN nq) := K10.drewN nq
      generalize s.extract 0 bE ++ ⟨#[8, 1]⟩ ++ s.extract bE s.size = lg at HZ1 HR1 ⊢
      clear K10
      refine (c8 n 2 v a bA ((bE : Int) + 2) lg _).mono ?_
      rintro e w12 ⟨rfl, k12⟩
      have K12 := K11.trans k12
      clear k12 K11
      go_wp2_with fail
      rw [show ((bE : Int) + 2) = ((bE + 2 : Nat) : Int) by omega]
      refine (read_none F n a v bA (bE + 2) lg _ (by rw [K12.tape]; exact hF) (by omega) (by rw [HZ1.out]; omega) (by rw [HZ1.out]; omega) HR1.out).mono ?_
      rintro e w13 ⟨⟨q2, x2, y2, rfl⟩, k13⟩
      have K13 := K12.trans k13
      clear k13 K12
      go_wp2_with fail
      go_quiet (fail)
      go_wp2_with fail
      have K14 : Kp [] w0 (w13.drewN nq) := K13.drewN nq
      generalize s.extract 0 bE ++ ⟨#[21, 0, 0, 0, 0]⟩ ++ s.extract bE s.size = lg2 at HZ2 HR2 ⊢
      clear K13
      refine (c8 n 2 v a bA ((bE : Int) + 5) lg2 _).mono ?_
      rintro e w15 ⟨rfl, k15⟩
      have K15 := K14.trans k15
      clear k15 K14
      go_wp2_with fail
      rw [show ((bE : Int) + 5) = ((bE + 5 : Nat) : Int) by omega]
      refine (read_none F n a v bA (bE + 5) lg2 _ (by rw [K15.tape]; exact hF) (by omega) (by rw [HZ2.out]; omega) (by rw [HZ2.out]; omega) HR2.out).mono ?_
      rintro e w16 ⟨⟨q3, x3, y3, rfl⟩, k16⟩
      have K16 := K15.trans k16
      clear k16 K15
      go_wp2_with fail
      go_ret
      exact ⟨rfl, K16⟩

theorem w4 (F : Interp) (n wi a v bA bE q : Int) (s : ByteArray) (w : World) (hF : F.answers w.tape) (hs : s.size ≤ maxLen)
    (hq0 : 0 ≤ q) (hq1 : q ≤ 18446744073709551615) :
    Calls Tryf.prog 4 #[.int .u64 n, .int .u64 wi, .int .i64 a, .int .u64 v, .string s, .int .i64 bA, .int .i64 bE, .int .u64 q] w fun e w' => e = .returned (.bool true) ∧ Kp [] w w' := by
  by_cases h : 65536 < s.size
  · exact w4early n wi a v bA bE q s w hs h
  by_cases h2 : bA < 0 ∨ bE < bA ∨ (s.size : Int) < bE
  · exact w4out n wi a v bA bE q s w (by omega) h2
  by_cases h3 : n = 0 ∨ a < 0
  · exact w4out2 n wi a v bA bE q s w (by omega) (by omega) (by omega) (by omega) h3
  have hn : (n == 0) = false := beq_eq_false_iff_ne.2 (by omega)
  by_cases h4 : wi = 0 ∨ wi = 1 ∨ wi = 5
  · obtain ⟨A, rfl⟩ := Int.eq_ofNat_of_zero_le (show 0 ≤ bA by omega)
    obtain ⟨E, rfl⟩ := Int.eq_ofNat_of_zero_le (show 0 ≤ bE by omega)
    exact w4main F n wi a v q A E s w hF (by omega) (by omega) (by omega) hn (by omega) hq0 hq1 h4
  · exact w4out3 n wi a v bA bE q s w (by omega) (by omega) (by omega) (by omega) hn (by omega) (by rw [bne_iff_ne]; omega) (by rw [bne_iff_ne]; omega) (by rw [bne_iff_ne]; omega)

end Go.Proofs.Qxb6612892aFmt
