/-
  THE WALK of FnLatestFirstStrictOrderTopIsLatest.
-/
import Derived.Test.Qxb6613133aBefore
import Derived.Deep.RegionWith
import Derived.Deep.DeepCutAuto
namespace Go.Proofs.Qxb6613133a
open Go.RowKit
set_option linter.unusedVariables false

/-- the three lines -/
def ln (x y z : Int) (k : Nat) : Int := if k = 0 then x else if k = 1 then y else z

/-- what memory holds: the lines at lb, the table at bb -/
structure Mem (w : World) (lb bb : Nat) (L : Nat → Int) (M : Nat → Bool) : Prop where
  l : ∀ k, k < 3 → w.cell? ⟨lb, k, none⟩ = some (.int .i64 (L k))
  b : ∀ k, k < 9 → w.cell? ⟨bb, k, none⟩ = some (.bool (M k))
  f : ∀ k, w.frozen? ⟨bb, k, none⟩ = false

theorem Mem.kept {w w' : World} {lb bb : Nat} {L : Nat → Int} {M : Nat → Bool} (h : Mem w lb bb L M) (k : Kp [] w w') : Mem w' lb bb L M :=
  ⟨fun i hi => (k.cell (lt_of_cell (h.l i hi)) (by simp)).trans (h.l i hi), fun i hi => (k.cell (lt_of_cell (h.b i hi)) (by simp)).trans (h.b i hi),
    fun i => (k.frozen (lt_of_cell (h.b 0 (by omega))) (by simp)).trans (h.f i)⟩

theorem Mem.set {w : World} {lb bb : Nat} {L : Nat → Int} {M : Nat → Bool} (h : Mem w lb bb L M) (hne : lb ≠ bb) (o : Nat) (ho : o < 9) (v : Bool) :
    Mem (w.setCell ⟨bb, o, none⟩ (.bool v)) lb bb L (fun k => if k = o then v else M k) := by
  refine ⟨fun k hk => ?_, fun k hk => ?_, fun k => ?_⟩
  · rw [World.cell?_setCell_other _ _ _ _ (by intro e; exact hne (congrArg Addr.block e).symm)]; exact h.l k hk
  · by_cases e : k = o
    · subst e
      simp only [if_true]
      exact World.cell?_setCell_same _ _ _ (h.b k hk)
    · simp only [e, if_false]
      rw [World.cell?_setCell_other _ _ _ _ (by intro e2; exact e (congrArg Addr.off e2).symm)]
      exact h.b k hk
  · rw [World.frozen?_setCell]; exact h.f k

/-- the table's entry at row a, column b -/
def bf (x y z : Int) (c : Nat) : Bool := decide (ln x y z (c % 3) < ln x y z (c / 3))

theorem bf_at (x y z : Int) (a b : Nat) (hb : b < 3) : bf x y z (a * 3 + b) = decide (ln x y z b < ln x y z a) := by
  unfold bf
  rw [show (a * 3 + b) % 3 = b by omega, show (a * 3 + b) / 3 = a by omega]

/-- the greatest of the three -/
structure Top (x y z G : Int) : Prop where
  a : x ≤ G
  b : y ≤ G
  c : z ≤ G
  d : G = x ∨ G = y ∨ G = z

theorem ln_cases (x y z : Int) (p : Nat) (hp : p < 3) : (p = 0 ∧ ln x y z p = x) ∨ (p = 1 ∧ ln x y z p = y) ∨ (p = 2 ∧ ln x y z p = z) := by
  unfold ln
  match p, hp with
  | 0, _ => simp
  | 1, _ => simp
  | 2, _ => simp

theorem start5 (x y z : Int) (w : World) :
    Mem ((w.alloc (.cells #[.int .i64 x, .int .i64 y, .int .i64 z] 27)).alloc (.cells #[.bool false, .bool false, .bool false, .bool false, .bool false, .bool false, .bool false, .bool false, .bool false] 29)) w.heap.size (w.heap.size + 1) (ln x y z) (fun _ => false) := by
  have e : w.heap.size + 1 = (w.alloc (.cells #[.int .i64 x, .int .i64 y, .int .i64 z] 27)).heap.size := by simp
  refine ⟨fun k hk => ?_, fun k hk => ?_, fun k => ?_⟩
  · rw [World.cell?_alloc_lt _ _ _ (by simp)]
    rw [World.cell?_alloc_new]
    match k, hk with
    | 0, _ => rfl
    | 1, _ => rfl
    | 2, _ => rfl
  · rw [e, World.cell?_alloc_new]
    match k, hk with
    | 0, _ => rfl
    | 1, _ => rfl
    | 2, _ => rfl
    | 3, _ => rfl
    | 4, _ => rfl
    | 5, _ => rfl
    | 6, _ => rfl
    | 7, _ => rfl
    | 8, _ => rfl
  · rw [e, World.frozen?_alloc_new]

set_option maxRecDepth 100000 in
set_option maxHeartbeats 2000000 in
theorem walk5 (x y z : Int) (w : World) :
    Calls Try.prog 5 #[.int .i64 x, .int .i64 y, .int .i64 z] w fun e w' => e = .returned (.bool true) ∧ Kp [] w w' := by
  have HS : Hid (Mem ((w.alloc (.cells #[.int .i64 x, .int .i64 y, .int .i64 z] 27)).alloc (.cells #[.bool false, .bool false, .bool false, .bool false, .bool false, .bool false, .bool false, .bool false, .bool false] 29)) w.heap.size (w.heap.size + 1) (ln x y z) (fun _ => false)) := start5 x y z w
  go_enter Try.func5, Try.ntmps5
  go_wp2_with fail
  go_loopw [9] (fun i wr => ∃ (a : Nat) (M : Nat → Bool), a ≤ 3 ∧ i = .int .i64 a ∧ Mem wr w.heap.size (w.heap.size + 1) (ln x y z) M ∧ Kp [] w wr ∧ (∀ c, c < a * 3 → M c = bf x y z c)) (fun i _ => 3 - (intOf i).toNat)
  case atStart => exact ⟨0, fun _ => false, by omega, rfl, HS.out, ((Kp.refl _ _).alloc _).alloc _, fun c hc => by omega⟩
  case round =>
    clear HS
    obtain ⟨a, M, ha, rfl, hM, hk, hd⟩ := hrel
    have HD : Hid (∀ c, c < a * 3 → M c = bf x y z c) := hd
    clear hd
    by_cases hlt : a < 3
    · have hda : decide ((a : Int) < 3) = true := by simp; omega
      go_wp2_with fail
      go_loopw [10] (fun j wr => ∃ (b : Nat) (M : Nat → Bool), b ≤ 3 ∧ j = .int .i64 b ∧ Mem wr w.heap.size (w.heap.size + 1) (ln x y z) M ∧ Kp [] w wr ∧ (∀ c, c < a * 3 + b → M c = bf x y z c)) (fun j _ => 3 - (intOf j).toNat)
      case atStart => exact ⟨0, M, by omega, rfl, hM, hk, HD.out⟩
      case round =>
        obtain ⟨b, M', hb, rfl, hM', hk', hd'⟩ := hrel
        have HD' : Hid (∀ c, c < a * 3 + b → M' c = bf x y z c) := hd'
        have HM' : Hid (Mem wr w.heap.size (w.heap.size + 1) (ln x y z) M') := hM'
        have HK' : Hid (Kp [] w wr) := hk'
        clear hd' hM hk HD
        by_cases hlb : b < 3
        · have l1 := hM'.l a hlt
          have l2 := hM'.l b hlb
          have hsz := lt_of_cell (hM'.b 0 (by omega))
          have HBF : Hid (bf x y z (a * 3 + b) = decide (ln x y z b < ln x y z a)) := bf_at x y z a b hlb
          clear hM' hk'
          go_wp2_with fail
          go_region_with (go_at_call 8; refine (c8 _ _ _).mono ?_; rintro e w8 ⟨rfl, hk8⟩; have hk9 : Kp [] wr w8 := ((Kp.refl [] wr).drew).trans hk8; have hM8 := HM'.out.kept hk9; have st1 := hM8.b (a * 3 + b) (by omega); have st3 := hM8.f; clear hk8 hM8)
          all_goals
            have HM8 : Hid (Mem w8 w.heap.size (w.heap.size + 1) (ln x y z) M') := HM'.out.kept hk9
            have HK8 : Hid (Kp [] w w8) := HK'.out.trans hk9
            clear hk9 st1 st3
            go_wp2_with fail
            go_roundw
            case rel =>
              refine ⟨b + 1, _, by omega, by go_num, HM8.out.set (by omega) (a * 3 + b) (by omega) _, HK8.out.setCell (Or.inr (by simp)) _, ?_⟩
              intro c hc
              by_cases e : c = a * 3 + b
              · subst e; simp only [if_true]; exact HBF.out.symm
              · simp only [e, if_false]; exact HD'.out c (by omega)
            case measure => simp [intOf]; omega
        · have e : b = 3 := by omega
          subst e
          go_wp2_with fail
          go_roundw
          case rel => exact ⟨a + 1, M', by omega, by go_num, hM', hk', fun c hc => HD'.out c (by omega)⟩
          case measure => simp [intOf]; omega
    · have hM2 : ∀ c, c < 9 → wr.cell? ⟨w.heap.size + 1, c, none⟩ = some (.bool (bf x y z c)) := fun c hc => by rw [hM.b c hc, HD.out c (by omega)]
      have hL := hM.l
      have HM2 : Hid (∀ c, c < 9 → wr.cell? ⟨w.heap.size + 1, c, none⟩ = some (.bool (bf x y z c))) := hM2
      have HL : Hid (∀ k, k < 3 → wr.cell? ⟨w.heap.size, k, none⟩ = some (.int .i64 (ln x y z k))) := hL
      have HKK : Hid (Kp [] w wr) := hk
      clear hM2 hL hM hk HD
      go_upto_if 43 with fail
      go_cut [11] (fun g wx => ∃ G : Int, g = .int .i64 G ∧ x ≤ G ∧ y ≤ G ∧ (G = x ∨ G = y) ∧ wx = wr)
      case first =>
        by_cases hxy : x < y
        · go_wp2_with fail
          go_meet
          exact ⟨y, rfl, by omega, by omega, by omega, rfl⟩
        · go_wp2_with fail
          go_meet
          exact ⟨x, rfl, by omega, by omega, by omega, rfl⟩
      case rest =>
      obtain ⟨G0, rfl, g1, g2, g3, rfl⟩ := hcut
      go_upto_if 47 with fail
      go_cut [11] (fun g wx => ∃ G : Int, g = .int .i64 G ∧ Top x y z G ∧ wx = wc)
      case first =>
        by_cases hxy : G0 < z
        · go_wp2_with fail
          go_meet
          exact ⟨z, rfl, ⟨by omega, by omega, by omega, by omega⟩, rfl⟩
        · go_wp2_with fail
          go_meet
          exact ⟨G0, rfl, ⟨by omega, by omega, by omega, by omega⟩, rfl⟩
      case rest =>
      obtain ⟨G, rfl, hG, rfl⟩ := hcut
      have HG : Hid (Top x y z G) := hG
      clear hG g1 g2 g3 hlt
      go_wp2_with fail
      go_loop [12, 13] (fun t i => ∃ (T : Int) (p : Nat), t = .int .i64 T ∧ 0 ≤ T ∧ T ≤ 3 ∧ p ≤ 3 ∧ i = .int .i64 p ∧ T ≤ (p : Int) ∧ (∀ k, k < p → ln x y z k = G → 1 ≤ T)) (fun _ i => 3 - (intOf i).toNat)
      case atStart => exact ⟨0, 0, rfl, by omega, by omega, by omega, rfl, by omega, fun k hk => by omega⟩
      case round =>
        obtain ⟨T, p, rfl, hT0, hT1, hp, rfl, hTp, hTT⟩ := hrel
        have HTT : Hid (∀ k, k < p → ln x y z k = G → 1 ≤ T) := hTT
        clear hTT
        by_cases hp3 : p < 3
        · have hdp : decide ((p : Int) < 3) = true := by simp; omega
          have c0 : wc.cell? ⟨w.heap.size + 1, p * 3 + p, none⟩ = some (.bool false) := by
            rw [HM2.out _ (by omega), bf_at x y z p p hp3]; simp
          go_wp2_with fail
          go_loop [14] (fun j => ∃ q : Nat, q ≤ 3 ∧ j = .int .i64 q) (fun j => 3 - (intOf j).toNat)
          case atStart => exact ⟨0, by omega, rfl⟩
          case round =>
            obtain ⟨q, hq, rfl⟩ := hrel
            by_cases hq3 : q < 3
            · have hdq : decide ((q : Int) < 3) = true := by simp; omega
              go_wp2_with fail
              go_loop [15] (fun j => ∃ r : Nat, r ≤ 3 ∧ j = .int .i64 r) (fun j => 3 - (intOf j).toNat)
              case atStart => exact ⟨0, by omega, rfl⟩
              case round =>
                obtain ⟨r, hr, rfl⟩ := hrel
                by_cases hr3 : r < 3
                · have d1 := HM2.out (p * 3 + q) (by omega)
                  rw [bf_at x y z p q hq3] at d1
                  by_cases h1 : ln x y z q < ln x y z p
                  · rw [decide_eq_true h1] at d1
                    have d2 := HM2.out (q * 3 + r) (by omega)
                    rw [bf_at x y z q r hr3] at d2
                    by_cases h2 : ln x y z r < ln x y z q
                    · rw [decide_eq_true h2] at d2
                      have d3 := HM2.out (p * 3 + r) (by omega)
                      rw [bf_at x y z p r hr3, decide_eq_true (by omega)] at d3
                      clear h1 h2
                      go_wp2_with fail
                      go_round
                      case rel => exact ⟨r + 1, by omega, by go_num⟩
                      case measure => simp [intOf]; omega
                    · rw [decide_eq_false h2] at d2
                      clear h1 h2
                      go_wp2_with fail
                      go_round
                      case rel => exact ⟨r + 1, by omega, by go_num⟩
                      case measure => simp [intOf]; omega
                  · rw [decide_eq_false h1] at d1
                    clear h1
                    go_wp2_with fail
                    go_round
                    case rel => exact ⟨r + 1, by omega, by go_num⟩
                    case measure => simp [intOf]; omega
                · go_wp2_with fail
                  go_round
                  case rel => exact ⟨q + 1, by omega, by go_num⟩
                  case measure => simp [intOf]; omega
            · have e0 := HM2.out (0 * 3 + p) (by omega)
              have e1 := HM2.out (1 * 3 + p) (by omega)
              have e2 := HM2.out (2 * 3 + p) (by omega)
              rw [bf_at x y z 0 p hp3, show ln x y z 0 = x from rfl, show 0 * 3 + p = p by omega] at e0
              rw [bf_at x y z 1 p hp3, show ln x y z 1 = y from rfl, show 1 * 3 + p = 3 + p by omega] at e1
              rw [bf_at x y z 2 p hp3, show ln x y z 2 = z from rfl, show 2 * 3 + p = 6 + p by omega] at e2
              have e3 := HL.out p hp3
              have hc := ln_cases x y z p hp3
              obtain ⟨t1, t2, t3, t4⟩ := HG.out
              generalize hlp : ln x y z p = lp at e0 e1 e2 e3 hc
              have HLP : Hid (ln x y z p = lp) := hlp
              clear hlp
              by_cases hlg : lp = G
              · have HLG : Hid (lp = G) := hlg
                rw [decide_eq_false (by omega)] at e0 e1 e2
                have hb : (lp == G) = true := beq_iff_eq.2 hlg
                clear hlg hc t1 t2 t3 t4
                go_wp2_with fail
                go_round
                case rel => exact ⟨T + 1, p + 1, rfl, by omega, by omega, by omega, by go_num, by omega, fun k hk _ => by omega⟩
                case measure => simp [intOf]; omega
              · have hb : (lp == G) = false := beq_eq_false_iff_ne.2 hlg
                have HNE : Hid (¬ lp = G) := hlg
                by_cases a0 : lp < x
                · rw [decide_eq_true a0] at e0
                  clear hlg hc t1 t2 t3 t4 a0
                  go_wp2_with fail
                  go_round
                  case rel =>
                    refine ⟨T, p + 1, rfl, by omega, by omega, by omega, by go_num, by omega, fun k hk he => ?_⟩
                    by_cases ek : k = p
                    · subst ek; exact absurd (HLP.out.symm.trans he) HNE.out
                    · exact HTT.out k (by omega) he
                  case measure => simp [intOf]; omega
                · rw [decide_eq_false a0] at e0
                  by_cases a1 : lp < y
                  · rw [decide_eq_true a1] at e1
                    clear hlg hc t1 t2 t3 t4 a0 a1
                    go_wp2_with fail
                    go_round
                    case rel =>
                      refine ⟨T, p + 1, rfl, by omega, by omega, by omega, by go_num, by omega, fun k hk he => ?_⟩
                      by_cases ek : k = p
                      · subst ek; exact absurd (HLP.out.symm.trans he) HNE.out
                      · exact HTT.out k (by omega) he
                    case measure => simp [intOf]; omega
                  · rw [decide_eq_false a1] at e1
                    rw [decide_eq_true (show lp < z by omega)] at e2
                    clear hlg hc t1 t2 t3 t4 a0 a1
                    go_wp2_with fail
                    go_round
                    case rel =>
                      refine ⟨T, p + 1, rfl, by omega, by omega, by omega, by go_num, by omega, fun k hk he => ?_⟩
                      by_cases ek : k = p
                      · subst ek; exact absurd (HLP.out.symm.trans he) HNE.out
                      · exact HTT.out k (by omega) he
                    case measure => simp [intOf]; omega
        · have hT : 1 ≤ T := by
            rcases HG.out.d with e | e | e
            · exact HTT.out 0 (by omega) e.symm
            · exact HTT.out 1 (by omega) e.symm
            · exact HTT.out 2 (by omega) e.symm
          go_wp2_with fail
          go_ret
          exact ⟨by simp, HKK.out⟩

end Go.Proofs.Qxb6613133a
