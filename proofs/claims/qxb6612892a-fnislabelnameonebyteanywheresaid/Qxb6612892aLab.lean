/-
  THE CONTRACTS of the functions on the road of the label-name laws.
-/
import Derived.Test.Qxb6612892aRows
import Derived.Test.Qxb6612892aPlain
import Derived.WalkKit
import Derived.WalkSpells
import Derived.WalkLawsBesides
namespace Go.Proofs.Qxb6612892a
open Go.RowKit
open Lab

theorem ret_bool {a b : Bool} (h : a = b) : Ending.returned (.bool a) = .returned (.bool b) := by rw [h]

set_option maxHeartbeats 400000 in
theorem c13 (n : Int) (w : World) :
    Calls Try.prog 13 #[.int .u8 n] w fun e w' => e = .returned (.bool (startB n)) ∧ w' = w := by
  go_enter Try.func13, Try.ntmps13
  go_wp2
  all_goals (go_ret; exact ⟨ret_bool (by rw [Bool.eq_iff_iff]; simp [startB]; omega), rfl⟩)

set_option maxHeartbeats 400000 in
theorem c9 (n : Int) (w : World) :
    Calls Try.prog 9 #[.int .u8 n] w fun e w' => e = .returned (.bool (startB n)) ∧ w' = w := by
  go_enter Try.func9, Try.ntmps9
  go_wp2
  all_goals (go_ret; exact ⟨ret_bool (by rw [Bool.eq_iff_iff]; simp [startB]; omega), rfl⟩)

set_option maxHeartbeats 400000 in
theorem c10 (n : Int) (w : World) :
    Calls Try.prog 10 #[.int .u8 n] w fun e w' => e = .returned (.bool (digB n)) ∧ w' = w := by
  go_enter Try.func10, Try.ntmps10
  go_wp2
  all_goals (go_ret; exact ⟨ret_bool (by rw [Bool.eq_iff_iff]; simp [digB]; omega), rfl⟩)

set_option maxHeartbeats 400000 in
theorem c15 (n : Int) (w : World) :
    Calls Try.prog 15 #[.int .u8 n] w fun e w' => e = .returned (.bool (digB n)) ∧ w' = w := by
  go_enter Try.func15, Try.ntmps15
  go_wp2
  all_goals (go_ret; exact ⟨ret_bool (by rw [Bool.eq_iff_iff]; simp [digB]; omega), rfl⟩)

set_option maxHeartbeats 400000 in
theorem c14 (n : Int) (w : World) :
    Calls Try.prog 14 #[.int .u8 n] w fun e w' => e = .returned (.bool (byteB n)) ∧ w' = w := by
  cases hs : startB n
  · go_enter Try.func14, Try.ntmps14
    go_wp2_with (first | (go_at_call 13; refine (c13 _ _).mono ?_; rintro e w' ⟨rfl, rfl⟩) | (go_at_call 15; refine (c15 _ _).mono ?_; rintro e w' ⟨rfl, rfl⟩))
    all_goals (go_ret; exact ⟨ret_bool (by simp [byteB, hs]), rfl⟩)
  · go_enter Try.func14, Try.ntmps14
    go_wp2_with (first | (go_at_call 13; refine (c13 _ _).mono ?_; rintro e w' ⟨rfl, rfl⟩) | (go_at_call 15; refine (c15 _ _).mono ?_; rintro e w' ⟨rfl, rfl⟩))
    all_goals (go_ret; exact ⟨ret_bool (by simp [byteB, hs]), rfl⟩)

/-- the scanner at 0, over a string that is not empty -/
def Scanned (s : ByteArray) (r : Int) : Prop := (r == (s.size : Int)) = isLab s.data.toList

theorem scanned_start (s : ByteArray) (h : 0 < s.size) (hs : startB (s[0].toNat : Int) = false) : Scanned s 0 := by
  unfold Scanned
  rw [isLab_start s.data.toList (by simpa using h) hs]
  simp; omega

theorem scanned_stop (s : ByteArray) (k : Nat) (h1 : 1 ≤ k) (h : k < s.size) (hs : startB ((s[0]'(by omega)).toNat : Int) = true) (hb : byteB (s[k].toNat : Int) = false) : Scanned s k := by
  unfold Scanned
  rw [isLab_take s.data.toList k h1 (by simpa using h) hs hb]
  simp; omega

theorem scanned_end (s : ByteArray) (h : 0 < s.size) (hs : startB (s[0].toNat : Int) = true)
    (hb : ∀ j (hj : j < s.size), 1 ≤ j → byteB (s[j].toNat : Int) = true) : Scanned s s.size := by
  unfold Scanned
  rw [isLab_all s.data.toList (by simpa using h) hs (fun j hj h1 => hb j (by simpa using hj) h1)]
  simp

set_option maxHeartbeats 400000 in
theorem c12 (s : ByteArray) (w : World) (h0 : 0 < s.size) (hm : s.size ≤ maxLen) :
    Calls Try.prog 12 #[.string s, .int .i64 0] w fun e w' => (∃ r : Int, e = .returned (.int .i64 r) ∧ Scanned s r) ∧ w' = w := by
  unfold maxLen at hm
  have hz : ((0 : Int) == (s.size : Int)) = false := beq_eq_false_iff_ne.2 (by omega)
  cases hs : startB (s[0].toNat : Int)
  · go_enter Try.func12, Try.ntmps12
    go_wp2_with (first | (go_at_call 13; refine (c13 _ _).mono ?_; rintro e w' ⟨rfl, rfl⟩))
    go_ret
    exact ⟨⟨0, rfl, scanned_start s h0 hs⟩, rfl⟩
  · go_enter Try.func12, Try.ntmps12
    go_wp2_with (first | (go_at_call 13; refine (c13 _ _).mono ?_; rintro e w' ⟨rfl, rfl⟩))
    go_loop [1] (fun i => ∃ k : Nat, 1 ≤ k ∧ k ≤ s.size ∧ i = .int .i64 k ∧ (∀ j (hj : j < s.size), 1 ≤ j → j < k → byteB (s[j].toNat : Int) = true)) (fun i => s.size - (intOf i).toNat)
    case atStart => exact ⟨1, by omega, by omega, rfl, fun j hj h1 h2 => by omega⟩
    case round =>
      obtain ⟨k, h1, hk, rfl, hb⟩ := hrel
      have HB : Hid (∀ j (hj : j < s.size), 1 ≤ j → j < k → byteB (s[j].toNat : Int) = true) := hb
      clear hb
      by_cases hlt : k < s.size
      · cases hc : byteB (s[k].toNat : Int)
        · go_wp2_with (first | (go_at_call 14; refine (c14 _ _).mono ?_; rintro e w' ⟨rfl, rfl⟩))
          go_ret
          exact ⟨⟨k, rfl, scanned_stop s k h1 hlt hs hc⟩, rfl⟩
        · go_wp2_with (first | (go_at_call 14; refine (c14 _ _).mono ?_; rintro e w' ⟨rfl, rfl⟩))
          go_round
          case rel =>
            refine ⟨k + 1, by omega, by omega, by go_num, ?_⟩
            intro j hj g1 g2
            by_cases e : j = k
            · subst e; exact hc
            · exact HB.out j hj g1 (by omega)
          case measure => simp [intOf]; omega
      · have e : k = s.size := by omega
        go_wp2_with (first | (go_at_call 14; refine (c14 _ _).mono ?_; rintro e w' ⟨rfl, rfl⟩))
        go_ret
        subst e
        exact ⟨⟨s.size, rfl, scanned_end s h0 hs (fun j hj g1 => HB.out j hj g1 hj)⟩, rfl⟩

theorem empty_of (s : ByteArray) (h : s.size = 0) : s = ⟨#[]⟩ := by
  cases s with
  | mk d => simp [ByteArray.size] at h; subst h; rfl

set_option maxHeartbeats 400000 in
theorem c11 (s : ByteArray) (w : World) (hm : s.size ≤ maxLen) :
    Calls Try.prog 11 #[.string s] w fun e w' => e = .returned (.bool (isLab s.data.toList)) ∧ w' = w := by
  by_cases h0 : s.size = 0
  · have e := empty_of s h0
    subst e
    go_enter Try.func11, Try.ntmps11
    go_wp2_with fail
    go_ret
    exact ⟨rfl, rfl⟩
  · have hp : 0 < s.size := by omega
    have hne : (s.toList == []) = false := by
      rw [ByteArray.toList_eq]; simp; intro e; apply h0; simp [ByteArray.size, e]
    go_enter Try.func11, Try.ntmps11
    go_wp2_with (go_at_call 12; refine (c12 s _ hp hm).mono ?_; rintro e w' ⟨⟨r, rfl, hr⟩, rfl⟩)
    go_ret
    exact ⟨ret_bool hr, rfl⟩

set_option maxHeartbeats 400000 in
theorem c6 (s : ByteArray) (w : World) (hm : s.size ≤ maxLen) :
    Calls Try.prog 6 #[.string s] w fun e w' => e = .returned (.bool (isLab s.data.toList)) ∧ w' = w := by
  go_enter Try.func6, Try.ntmps6
  go_wp2_with (go_at_call 11; refine (c11 s _ hm).mono ?_; rintro e w' ⟨rfl, rfl⟩)
  go_ret
  exact ⟨rfl, rfl⟩

theorem all_stop (s : ByteArray) (k : Nat) (h : k < s.size) (hb : byteB (s[k].toNat : Int) = false) : allB s.data.toList = false := by
  unfold allB; rw [List.all_eq_false]
  refine ⟨s[k], ?_, by simp [bAt, hb]⟩
  exact Array.getElem_mem_toList (xs := s.data) h

theorem all_end (s : ByteArray) (hb : ∀ j (hj : j < s.size), byteB (s[j].toNat : Int) = true) : allB s.data.toList = true := by
  unfold allB; rw [List.all_eq_true]
  intro x hx
  obtain ⟨j, hj, rfl⟩ := List.getElem_of_mem hx
  exact hb j (by simpa using hj)

set_option maxHeartbeats 400000 in
theorem c7 (s : ByteArray) (w : World) (hm : s.size ≤ maxLen) :
    Calls Try.prog 7 #[.string s] w fun e w' => e = .returned (.bool (allB s.data.toList)) ∧ w' = w := by
  unfold maxLen at hm
  go_enter Try.func7, Try.ntmps7
  go_wp2_with fail
  go_loop [3] (fun i => ∃ k : Nat, k ≤ s.size ∧ i = .int .i64 k ∧ (∀ j (hj : j < s.size), j < k → byteB (s[j].toNat : Int) = true)) (fun i => s.size - (intOf i).toNat)
  case atStart => exact ⟨0, by omega, rfl, fun j hj h2 => by omega⟩
  case round =>
    obtain ⟨k, hk, rfl, hb⟩ := hrel
    have HB : Hid (∀ j (hj : j < s.size), j < k → byteB (s[j].toNat : Int) = true) := hb
    clear hb
    by_cases hlt : k < s.size
    · cases h1 : startB (s[k].toNat : Int)
      · cases h2 : digB (s[k].toNat : Int)
        · go_wp2_with (first | (go_at_call 9; refine (c9 _ _).mono ?_; rintro e w' ⟨rfl, rfl⟩) | (go_at_call 10; refine (c10 _ _).mono ?_; rintro e w' ⟨rfl, rfl⟩))
          go_ret
          exact ⟨ret_bool (all_stop s k hlt (by simp [byteB, h1, h2])).symm, rfl⟩
        · go_wp2_with (first | (go_at_call 9; refine (c9 _ _).mono ?_; rintro e w' ⟨rfl, rfl⟩) | (go_at_call 10; refine (c10 _ _).mono ?_; rintro e w' ⟨rfl, rfl⟩))
          go_round
          case rel =>
            refine ⟨k + 1, by omega, by go_num, ?_⟩
            intro j hj g2
            by_cases e : j = k
            · subst e; simp [byteB, h2]
            · exact HB.out j hj (by omega)
          case measure => simp [intOf]; omega
      · go_wp2_with (first | (go_at_call 9; refine (c9 _ _).mono ?_; rintro e w' ⟨rfl, rfl⟩) | (go_at_call 10; refine (c10 _ _).mono ?_; rintro e w' ⟨rfl, rfl⟩))
        go_round
        case rel =>
          refine ⟨k + 1, by omega, by go_num, ?_⟩
          intro j hj g2
          by_cases e : j = k
          · subst e; simp [byteB, h1]
          · exact HB.out j hj (by omega)
        case measure => simp [intOf]; omega
    · have e : k = s.size := by omega
      go_wp2_with fail
      go_ret
      subst e
      exact ⟨ret_bool (all_end s (fun j hj => HB.out j hj hj)).symm, rfl⟩

set_option maxHeartbeats 400000 in
theorem c5 (a b : ByteArray) (w : World) (ha : a.size ≤ maxLen) (hb : b.size ≤ maxLen) :
    Calls Try.prog 5 #[.string a, .string b] w fun e w' => (∃ r, e = .returned (.bool r)) ∧ w' = w := by
  unfold maxLen at ha hb
  go_enter Try.func5, Try.ntmps5
  go_wp2
  all_goals (go_ret; exact ⟨⟨_, rfl⟩, rfl⟩)

set_option maxHeartbeats 400000 in
theorem c5s (a b : ByteArray) (w : World) (ha : a.size ≤ 65536) (hb : b.size ≤ 65536) :
    Calls Try.prog 5 #[.string a, .string b] w fun e w' => e = .returned (.bool true) ∧ w' = w := by
  go_enter Try.func5, Try.ntmps5
  go_wp2
  go_ret
  exact ⟨rfl, rfl⟩

set_option maxHeartbeats 400000 in
theorem c8s (a : ByteArray) (i c : Int) (w : World) (ha : a.size ≤ 65536) :
    Calls Try.prog 8 #[.string a, .int .i64 i, .int .u8 c] w fun e w' => e = .returned (.bool true) ∧ w' = w := by
  go_enter Try.func8, Try.ntmps8
  go_wp2
  go_ret
  exact ⟨rfl, rfl⟩

theorem ne_empty (s : ByteArray) (h : 0 < s.size) : (s.toList == []) = false := by
  rw [ByteArray.toList_eq]; simp; intro e
  have : s.size = 0 := by simp [ByteArray.size, e]
  omega

set_option maxHeartbeats 400000 in
theorem c8 (a : ByteArray) (i c : Int) (w : World) (ha : a.size ≤ maxLen) :
    Calls Try.prog 8 #[.string a, .int .i64 i, .int .u8 c] w fun e w' => (∃ r, e = .returned (.bool r)) ∧ w' = w := by
  unfold maxLen at ha
  go_enter Try.func8, Try.ntmps8
  go_wp2
  all_goals (go_ret; exact ⟨⟨_, rfl⟩, rfl⟩)

end Go.Proofs.Qxb6612892a
