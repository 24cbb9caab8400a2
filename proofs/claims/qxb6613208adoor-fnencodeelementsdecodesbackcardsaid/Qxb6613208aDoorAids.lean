/-
  THE CONTRACTS of encodeElements at nil, of zzClone, of the bounds on lengths.
-/
import Derived.Test.Qxb6613208aDoorNew
namespace Go.Proofs.Qxb6613208aDoor
open Go.RowKit
set_option linter.unusedVariables false

set_option maxHeartbeats 4000000 in
set_option maxRecDepth 100000 in
/-- encodeElements of a nil slice -/
theorem c12n (dst : Value) (t d : Nat) (w : World) (hT : Tbl0 w t) :
    Calls Tryd.prog 12 #[dst, .int .i64 d, .slice none 0 0, .int .i64 0, .pointer (some ⟨t, 0, none⟩)] w fun e w' => e = .returned (.int .i64 d) ∧ Kp [t] w w' := by
  have HT : Hid (Tbl0 w t) := hT
  clear hT
  go_enter Tryd.func12, Tryd.ntmps12
  go_wp2_with fail
  refine (c13 t 0 w HT.out (by omega)).mono ?_
  rintro e w1 ⟨rfl, ht1, hk1⟩
  have HK1 : Hid (Kp [t] w w1) := hk1
  clear ht1 hk1
  go_wp2_with fail
  go_loop [11] (fun pv => pv = .int .i64 0) (fun _ => 0)
  case atStart => rfl
  case round =>
    subst hrel
    go_wp2_with fail
    go_loop [1, 12, 13, 14] (fun dv lv mv pv => dv = .int .i64 d ∧ lv = .int .i64 0 ∧ mv = .int .i64 0 ∧ pv = .int .i64 0) (fun _ _ _ _ => 0)
    case atStart => exact ⟨rfl, rfl, rfl, rfl⟩
    case round =>
      obtain ⟨rfl, rfl, rfl, rfl⟩ := hrel
      go_wp2_with fail
      refine (c17_none _ d _ _ _).mono ?_
      rintro e w2 ⟨rfl, rfl⟩
      go_wp2_with fail
      go_ret
      exact ⟨rfl, HK1.out⟩

set_option maxHeartbeats 4000000 in
set_option maxRecDepth 100000 in
/-- ZZencodeElements of a nil slice -/
theorem c7n (dst : Value) (d : Nat) (w : World) :
    Calls Tryd.prog 7 #[dst, .int .i64 d, .slice none 0 0, .int .i64 0] w fun e w' => e = .returned (.int .i64 d) ∧ Kp [] w w' := by
  obtain ⟨C, hz, hT⟩ := zero37
  have HT : Hid (Tbl0 (w.alloc (.cells C 37)) w.heap.size) := hT w
  have HA : Hid (Kp [] w (w.alloc (.cells C 37))) := (Kp.refl [] w).alloc _
  clear hT
  go_enter Tryd.func7, Tryd.ntmps7
  go_wp2_with fail
  refine (c12n dst w.heap.size d _ HT.out).mono ?_
  rintro e w2 ⟨rfl, h2⟩
  have HN : Hid (Kp [] w w2) := (HA.out.any.trans h2).new (Nat.le_refl _)
  clear h2
  go_wp2_with fail
  go_ret
  exact ⟨rfl, HN.out⟩

/-- the bytes z 0 .. z (n - 1) lie in block a, from o on -/
def RowO (w : World) (a o n : Nat) (z : Nat → Nat) : Prop := ∀ k, k < n → w.cell? ⟨a, o + k, none⟩ = some (.int .u8 (z k))

theorem RowO.kept {w w' : World} {a o n : Nat} {z : Nat → Nat} (h : RowO w a o n z) (k : Kp [] w w') : RowO w' a o n z :=
  fun i hi => (k.cell (lt_of_cell (h i hi)) (by simp)).trans (h i hi)

set_option maxHeartbeats 4000000 in
set_option maxRecDepth 100000 in
/-- zzClone -/
theorem c6 (a o n c : Nat) (z : Nat → Nat) (w : World) (hR : RowO w a o n z) (hz : ∀ k, z k < 256) (hn : n ≤ 1048576) :
    Calls Tryd.prog 6 #[.slice (some ⟨a, o, none⟩) n c] w fun e w' => e = .returned (.slice (some ⟨w.heap.size, 0, none⟩) n n) ∧ Row w' w.heap.size n z ∧ Free w' w.heap.size ∧ Kp [] w w' := by
  have HR : Hid (RowO w a o n z) := hR
  have HZ : Hid (∀ k, z k < 256) := hz
  clear hR hz
  obtain ⟨wz, hrun, h1, h2, h3, _⟩ := made n w hn
  have H0 : Hid (Row wz w.heap.size n (fun _ => 0) ∧ Free wz w.heap.size ∧ Kp [] w wz) := ⟨h1, h2, h3⟩
  clear h1 h2 h3
  have heq : (binOp .eql 22 (.slice (some ⟨a, o, none⟩) n c) (.slice none 0 0)).run Tryd.prog w = .ok (.bool false) w := Lib.run_eql_slice_nil w 22 5 (some ⟨a, o, none⟩) n c 0 0 Tryd.underlying22
  go_enter Tryd.func6, Tryd.ntmps6
  go_wp2_with fail
  go_loopw [4] (fun kv wr => ∃ (k : Nat) (g : Nat → Nat), k ≤ n ∧ kv = .int .i64 k ∧ Row wr w.heap.size n g ∧ Free wr w.heap.size ∧ Kp [] w wr ∧ ∀ j, j < k → g j = z j) (fun kv _ => n - (intOf kv).toNat)
  case atStart => exact ⟨0, _, by omega, rfl, H0.out.1, H0.out.2.1, H0.out.2.2, fun j hj => by omega⟩
  case round =>
    clear H0 hrun
    obtain ⟨k, g, k1, rfl, h1, h2, h3, h4⟩ := hrel
    have H : Hid (Row wr w.heap.size n g ∧ Free wr w.heap.size ∧ Kp [] w wr ∧ ∀ j, j < k → g j = z j) := ⟨h1, h2, h3, h4⟩
    by_cases hk : k < n
    · have d0 := h1.c k hk
      have f0 := h2 k
      have d1 := HR.out.kept h3 k hk
      have b1 : (k : Int) < (n : Int) := by omega
      have b2 : (0 : Int) ≤ (k : Int) := by omega
      clear h1 h2 h3 h4
      go_wp2_with fail
      go_roundw
      case rel =>
        obtain ⟨h1, h2, h3, h4⟩ := H.out
        refine ⟨k + 1, upd g k (z k), by omega, by go_num, h1.set k (z k) (HZ.out k), h2.set _ _, h3.setCell (Or.inr (Nat.le_refl _)) _, fun j hj => ?_⟩
        by_cases e : j = k
        · subst e; exact upd_same _ _ _
        · rw [upd_other _ _ _ _ e]; exact h4 j (by omega)
      case measure => simp [intOf]; omega
    · have e : k = n := by omega
      subst e
      clear h1 h2 h3 h4
      go_wp2_with fail
      go_ret
      obtain ⟨h1, h2, h3, h4⟩ := H.out
      exact ⟨rfl, ⟨fun i hi => by rw [h1.c i hi, h4 i hi], HZ.out⟩, h2, h3⟩

set_option maxHeartbeats 4000000 in
set_option maxRecDepth 100000 in
theorem c9 (a a2 : Option Addr) (n c n2 c2 : Nat) (x y : Int) (w : World) :
    Calls Tryd.prog 9 #[.slice a n c, .int .i64 x, .slice a2 n2 c2, .int .i64 y] w fun e w' => (∃ r : Bool, e = .returned (.bool r)) ∧ w' = w := by
  go_enter Tryd.func9, Tryd.ntmps9
  go_wp2_with fail
  all_goals
    go_ret
    exact ⟨⟨_, rfl⟩, rfl⟩

set_option maxHeartbeats 4000000 in
set_option maxRecDepth 100000 in
theorem c5 (a a2 : Option Addr) (n c n2 c2 : Nat) (x y : Int) (w : World) :
    Calls Tryd.prog 5 #[.slice a n c, .int .i64 x, .slice a2 n2 c2, .int .i64 y] w fun e w' => (∃ r : Bool, e = .returned (.bool r)) ∧ w' = w := by
  go_enter Tryd.func5, Tryd.ntmps5
  go_wp2_with fail
  all_goals
    go_ret
    exact ⟨⟨_, rfl⟩, rfl⟩

end Go.Proofs.Qxb6613208aDoor
