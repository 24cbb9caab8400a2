/-
  THE CONTRACTS of the small functions: ZZnewProtoField, isNaNBits, sameDouble, wrongWire, double, message, the size bounds.
-/
import Derived.Test.Qxb6612892aFmtRows
import Derived.Test.Qxb6612892aFmtFacts
import Derived.Test.Qxb6612892aFmtMem
import Derived.Test.Qxb6612892aFmtNan
import Derived.WalkLawsBesides
import Derived.BigQuiet
import Derived.BigRegion
import Derived.RegionTactic
namespace Go.Proofs.Qxb6612892aFmt
open Go.RowKit
open Go.Extern.Stop Go.Stop Go.Extern
attribute [local go_sem] Tryf.call22 Tryf.guard Tryf.fmt0 Tryf.fmt0r Tryf.fmt1 Tryf.fmt1r Tryf.fmt2 Tryf.fmt2r Tryf.fmt3 Tryf.fmt3r Tryf.fmt4 Tryf.fmt4r Tryf.op22_100 Tryf.op31_100 Tryf.op3_100 Tryf.call20 Tryf.call11

/-- a field of a message, as a value -/
def fld (n wi a va : Int) (s : ByteArray) (bA bE : Int) : Value :=
  .agg #[.int .u64 n, .int .u64 wi, .int .i64 a, .int .u64 va, .string s, .int .i64 bA, .int .i64 bE]

set_option maxRecDepth 100000 in
set_option maxHeartbeats 400000 in
theorem c8 (n wi va a bA bE : Int) (s : ByteArray) (w : World) :
    Calls Tryf.prog 8 #[.int .u64 n, .int .u64 wi, .int .i64 a, .int .u64 va, .string s, .int .i64 bA, .int .i64 bE] w fun e w' => e = .returned (fld n wi a va s bA bE) ∧ Kp [] w w' := by
  unfold fld
  go_enter Tryf.func8, Tryf.ntmps8
  go_wp2
  exact bodyPost_ret (v := .agg #[.int .u64 n, .int .u64 wi, .int .i64 a, .int .u64 va, .string s, .int .i64 bA, .int .i64 bE]) (by simp [results, Tryf.results8, go_sem]) rfl ⟨rfl, (Kp.refl _ _).alloc _⟩

set_option maxRecDepth 100000 in
set_option maxHeartbeats 400000 in
theorem c19 (F : Interp) (n wi va a bA bE : Int) (s : ByteArray) (w : World) (hF : F.answers w.tape) :
    Calls Tryf.prog 19 #[fld n wi a va s bA bE] w fun e w' => (∃ x, e = .returned (.iface 56 x)) ∧ Kp [] w w' := by
  unfold fld
  have hF' := answers_open hF
  go_enter Tryf.func19, Tryf.ntmps19
  go_wp2
  go_region
  all_goals go_wp2
  all_goals go_ret
  all_goals exact ⟨⟨_, rfl⟩, ((((Kp.refl _ _).alloc _).alloc _).alloc _).drew.drew⟩

set_option maxRecDepth 100000 in
set_option maxHeartbeats 400000 in
theorem c16 (n va a bA bE : Int) (s : ByteArray) (w : World) :
    Calls Tryf.prog 16 #[fld n 1 a va s bA bE] w fun e w' => e = .returned (.tuple #[.float .f64 va.toNat, .nilIface]) ∧ Kp [] w w' := by
  unfold fld
  go_enter Tryf.func16, Tryf.ntmps16
  go_wp2
  go_ret2
  exact ⟨rfl, (Kp.refl _ _).alloc _⟩

set_option maxRecDepth 100000 in
set_option maxHeartbeats 400000 in
theorem c16no (F : Interp) (n wi va a bA bE : Int) (s : ByteArray) (w : World) (hF : F.answers w.tape) (h : (wi != 1) = true) :
    Calls Tryf.prog 16 #[fld n wi a va s bA bE] w fun e w' => (∃ x, e = .returned (.tuple #[.float .f64 0, .iface 56 x])) ∧ Kp [] w w' := by
  have k := fun v hv => c19 F n wi va a bA bE s v hv
  unfold fld at k ⊢
  have K : Hid _ := k
  clear k
  go_enter Tryf.func16, Tryf.ntmps16
  go_wp2_with fail
  refine (K.out _ (by exact hF)).mono ?_
  rintro e w1 ⟨⟨x, rfl⟩, hk⟩
  go_wp2_with fail
  go_ret2
  exact ⟨⟨_, rfl⟩, ((Kp.refl _ _).alloc _).trans hk⟩

set_option maxRecDepth 100000 in
set_option maxHeartbeats 400000 in
theorem c17 (n va a bA bE : Int) (s : ByteArray) (w : World) :
    Calls Tryf.prog 17 #[fld n 2 a va s bA bE] w fun e w' => e = .returned (.tuple #[.agg #[.string s, .int .i64 bA, .int .i64 bE], .nilIface]) ∧ Kp [] w w' := by
  unfold fld
  go_enter Tryf.func17, Tryf.ntmps17
  go_wp2
  exact bodyPost_ret (v := .tuple #[.agg #[.string s, .int .i64 bA, .int .i64 bE], .nilIface]) (by simp [results, Tryf.results17, go_sem]) rfl ⟨rfl, ((Kp.refl _ _).alloc _).alloc _⟩

set_option maxRecDepth 100000 in
set_option maxHeartbeats 400000 in
theorem c17no (F : Interp) (n wi va a bA bE : Int) (s : ByteArray) (w : World) (hF : F.answers w.tape) (h : (wi != 2) = true) :
    Calls Tryf.prog 17 #[fld n wi a va s bA bE] w fun e w' => (∃ x, e = .returned (.tuple #[.agg #[.string ⟨#[]⟩, .int .i64 0, .int .i64 0], .iface 56 x])) ∧ Kp [] w w' := by
  have k := fun v hv => c19 F n wi va a bA bE s v hv
  unfold fld at k ⊢
  have K : Hid _ := k
  clear k
  go_enter Tryf.func17, Tryf.ntmps17
  go_wp2_with fail
  refine (K.out _ (by exact hF)).mono ?_
  rintro e w1 ⟨⟨x, rfl⟩, hk⟩
  have hc := fun o => hk.cell (b := w.heap.size + 1) (o := o) (by simp) (by simp)
  have hf := fun o => hk.frozen (b := w.heap.size + 1) (o := o) (by simp) (by simp)
  go_wp2_with fail
  exact bodyPost_ret (v := .tuple #[.agg #[.string ⟨#[]⟩, .int .i64 0, .int .i64 0], .iface 56 x]) (by simp [results, Tryf.results17, go_sem, hc]) rfl
    ⟨⟨x, rfl⟩, ((((((Kp.refl _ _).alloc _).alloc _).trans hk).setCell (Or.inr (by simp)) _).setCell (Or.inr (by simp)) _).setCell (Or.inr (by simp)) _⟩

set_option maxRecDepth 100000 in
set_option maxHeartbeats 400000 in
theorem c5 (s : ByteArray) (n a v bA bE q x : Int) (w : World) (hs : s.size ≤ maxLen) :
    Calls Tryf.prog 5 #[.int .u64 n, .int .i64 a, .int .u64 v, .string s, .int .i64 bA, .int .i64 bE, .int .u64 q, .int .u64 x] w fun e w' => (∃ r, e = .returned (.bool r)) ∧ w' = w := by
  unfold maxLen at hs
  go_enter Tryf.func5, Tryf.ntmps5
  go_wp2
  all_goals (go_ret; exact ⟨⟨_, rfl⟩, rfl⟩)

set_option maxRecDepth 100000 in
set_option maxHeartbeats 400000 in
theorem c5s (s : ByteArray) (n a v bA bE q x : Int) (w : World) (hs : s.size ≤ 65536) :
    Calls Tryf.prog 5 #[.int .u64 n, .int .i64 a, .int .u64 v, .string s, .int .i64 bA, .int .i64 bE, .int .u64 q, .int .u64 x] w fun e w' => e = .returned (.bool true) ∧ w' = w := by
  go_enter Tryf.func5, Tryf.ntmps5
  go_wp2
  all_goals (go_ret; exact ⟨rfl, rfl⟩)

set_option maxRecDepth 100000 in
set_option maxHeartbeats 400000 in
theorem c10 (s : ByteArray) (n y a v bA bE q : Int) (w : World) (hs : s.size ≤ maxLen) :
    Calls Tryf.prog 10 #[.int .u64 n, .int .u64 y, .int .i64 a, .int .u64 v, .string s, .int .i64 bA, .int .i64 bE, .int .u64 q] w fun e w' => (∃ r, e = .returned (.bool r)) ∧ w' = w := by
  unfold maxLen at hs
  go_enter Tryf.func10, Tryf.ntmps10
  go_wp2
  all_goals (go_ret; exact ⟨⟨_, rfl⟩, rfl⟩)

set_option maxRecDepth 100000 in
set_option maxHeartbeats 400000 in
theorem c10s (s : ByteArray) (n y a v bA bE q : Int) (w : World) (hs : s.size ≤ 65536) :
    Calls Tryf.prog 10 #[.int .u64 n, .int .u64 y, .int .i64 a, .int .u64 v, .string s, .int .i64 bA, .int .i64 bE, .int .u64 q] w fun e w' => e = .returned (.bool true) ∧ w' = w := by
  go_enter Tryf.func10, Tryf.ntmps10
  go_wp2
  all_goals (go_ret; exact ⟨rfl, rfl⟩)

theorem ret_bool {a b : Bool} (h : a = b) : Ending.returned (.bool a) = .returned (.bool b) := by rw [h]

set_option maxRecDepth 100000 in
set_option maxHeartbeats 400000 in
theorem c13 (b : Int) (w : World) :
    Calls Tryf.prog 13 #[.int .u64 b] w fun e w' => e = .returned (.bool (nanB b)) ∧ w' = w := by
  go_enter Tryf.func13, Tryf.ntmps13
  go_wp2
  · go_ret
    exact ⟨ret_bool (by unfold nanB; rw [show (bits BinOp.and IntKind.u64 (b / 4503599627370496) 2047 == 2047) = true from beq_iff_eq.2 (by assumption)]; rfl), rfl⟩
  · go_ret
    exact ⟨ret_bool (by unfold nanB; rw [show (bits BinOp.and IntKind.u64 (b / 4503599627370496) 2047 == 2047) = false from beq_eq_false_iff_ne.2 (by assumption)]; rfl), rfl⟩

set_option maxRecDepth 100000 in
set_option maxHeartbeats 400000 in
theorem c9 (b : Int) (w : World) (h0 : 0 ≤ b) (h1 : b ≤ 18446744073709551615) :
    Calls Tryf.prog 9 #[.float .f64 b.toNat, .int .u64 b] w fun e w' => e = .returned (.bool true) ∧ w' = w := by
  have k := fun v => c13 b v
  cases hn : nanB b
  · rw [hn] at k
    have K : Hid _ := k
    have hb : (max b 0 == b) = true := beq_iff_eq.2 (by omega)
    clear k
    go_enter Tryf.func9, Tryf.ntmps9
    go_wp2_with fail
    refine (K.out _).mono ?_
    rintro e w' ⟨rfl, rfl⟩
    go_wp2_with fail
    go_ret
    exact ⟨rfl, rfl⟩
  · rw [hn] at k
    have K : Hid _ := k
    have ho := nan_order b h0 h1 hn
    clear k
    go_enter Tryf.func9, Tryf.ntmps9
    go_wp2_with fail
    refine (K.out _).mono ?_
    rintro e w' ⟨rfl, rfl⟩
    go_wp2_with fail
    go_ret
    exact ⟨rfl, rfl⟩

end Go.Proofs.Qxb6612892aFmt
