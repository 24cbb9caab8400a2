/-
  THE PROOF OF 'Rows.FnIsLabelNameOneByteAnywhereSaid': the frame is the kit's own template at this function; the walk is ours.
-/
import Derived.Test.Qxb6612892aRows
import Derived.Test.Qxb6612892aLab
import Derived.Deep.QuietTactic
import Derived.BigQuiet
import Derived.WalkKit
import Derived.ProofKit
import Derived.OpenShut
import Derived.ShutString
namespace Go.Proofs.Qxb6612892a.fnIsLabelNameOneByteAnywhere
open Go.ChangeShapes Go.WideShapes Go.ChangeAt Go.RowKit
open Go.ChangeMaps (open_string shut_string)
open Lab
set_option linter.unusedVariables false      -- a walk need not use every 'w<i>' (that an integer argument fits its kind)

theorem own : ownKnob Try.prog.godebug = none := by kernel_rfl

/-! ### STEP 1: THE WALK -/
set_option maxHeartbeats 400000 in
theorem early (a0 : ByteArray) (a1 a2 : Int) (w0 : a0.size ≤ maxLen) (h : 65536 < a0.size) (w : World) :
    Calls Try.prog 4 #[.string a0, .int .i64 a1, .int .u8 a2] w fun e w' => e = .returned (.bool true) ∧ Grown w w' := by
  go_enter Try.func4, Try.ntmps4
  go_wp2_with (go_at_call 8; refine (c8 a0 _ _ _ w0).mono ?_; rintro e w' ⟨⟨r, rfl⟩, rfl⟩; cases r)
  all_goals (go_ret; exact ⟨rfl, Grown.refl _⟩)

set_option maxHeartbeats 400000 in
theorem outside (a0 : ByteArray) (a1 a2 : Int) (h0 : a0.size ≤ 65536) (h : a1 < 0 ∨ (a0.size : Int) < a1) (w : World) :
    Calls Try.prog 4 #[.string a0, .int .i64 a1, .int .u8 a2] w fun e w' => e = .returned (.bool true) ∧ Grown w w' := by
  by_cases h' : a1 < 0
  · go_enter Try.func4, Try.ntmps4
    go_wp2_with (go_at_call 8; refine (c8s a0 _ _ _ h0).mono ?_; rintro e w' ⟨rfl, rfl⟩)
    all_goals (go_ret; exact ⟨rfl, Grown.refl _⟩)
  · have h2 : (a0.size : Int) < a1 := by omega
    go_enter Try.func4, Try.ntmps4
    go_wp2_with (go_at_call 8; refine (c8s a0 _ _ _ h0).mono ?_; rintro e w' ⟨rfl, rfl⟩)
    all_goals (go_ret; exact ⟨rfl, Grown.refl _⟩)

theorem conv (c : UInt8) (w : World) : Sem.run Try.prog (convert 25 9 (Value.slice (some { block := w.heap.size, off := 0 }) 1 1)) (w.alloc (Obj.cells #[Value.int IntKind.u8 (c.toNat : Int)] 5))
    = .ok (.string ⟨#[c]⟩) (w.alloc (Obj.cells #[Value.int IntKind.u8 (c.toNat : Int)] 5)) :=
  run_convert_bytes_back (P := Try.prog) (w.alloc (Obj.cells #[Value.int IntKind.u8 (c.toNat : Int)] 5)) 25 9 5 ⟨w.heap.size, 0, none⟩ 1 [c] Try.underlying25 Try.underlying5 Try.underlying9
    (fun j hj => by
      have e : j = 0 := by simpa using hj
      subst e
      exact World.cell?_alloc_mark w _ 5 (0, 0) 0)

theorem grown_drewN {W w' : World} (h : Grown W w') : ∀ n, Grown W (w'.drewN n)
  | 0 => h
  | n + 1 => (grown_drewN h n).drew

/-- a callee that answers one bool -/
def Says (f : Nat) (args : Array Value) (b : Bool) : Prop := ∀ w, Calls Try.prog f args w fun e w' => e = .returned (.bool b) ∧ w' = w

theorem Says.at {f : Nat} {args : Array Value} {b : Bool} (h : Says f args b) (w : World) : Calls Try.prog f args w fun e w' => e = .returned (.bool b) ∧ w' = w := h w

def ins (a0 : ByteArray) (i : Nat) (c : UInt8) : ByteArray := a0.extract 0 i ++ ⟨#[c]⟩ ++ a0.extract i a0.size

theorem data_ins (a0 : ByteArray) (i : Nat) (c : UInt8) (hi : i ≤ a0.size) : (ins a0 i c).data.toList = a0.data.toList.take i ++ [c] ++ a0.data.toList.drop i := by
  unfold ins
  simp [Array.toList_extract, List.extract]
  exact List.take_of_length_le (by simp)

theorem take_ne (l : List UInt8) (i : Nat) (h1 : 0 < i) (h2 : i ≤ l.length) : l.take i ≠ [] := by
  intro e
  have := congrArg List.length e
  rw [List.length_take] at this
  simp only [List.length_nil] at this
  omega

theorem size_ins (a0 : ByteArray) (i : Nat) (c : UInt8) (hi : i ≤ a0.size) : (ins a0 i c).size = a0.size + 1 := by
  unfold ins
  rw [ByteArray.size_append, ByteArray.size_append, ByteArray.size_extract, ByteArray.size_extract]
  show _ + 1 + _ = _
  omega

set_option maxHeartbeats 400000 in
theorem bad (a0 : ByteArray) (i : Nat) (c : UInt8) (h0 : a0.size ≤ 65536) (hi : (i : Int) ≤ (a0.size : Int))
    (k1 : Says 6 #[.string ⟨#[c]⟩] false) (k9 : Says 9 #[.int .u8 (c.toNat : Int)] false) (k10 : Says 10 #[.int .u8 (c.toNat : Int)] false)
    (kt : Says 6 #[.string (a0.extract 0 i ++ ⟨#[c]⟩ ++ a0.extract i a0.size)] false) (w : World) :
    Calls Try.prog 4 #[.string a0, .int .i64 i, .int .u8 (c.toNat : Int)] w fun e w' => e = .returned (.bool true) ∧ Grown w w' := by
  have hconv := conv c
  have hi0 : (0 : Int) ≤ (i : Int) := by omega
  go_enter Try.func4, Try.ntmps4
  go_wp2_with (go_at_call 8; refine (c8s a0 _ _ _ h0).mono ?_; rintro e w' ⟨rfl, rfl⟩)
  go_quiet (fail)
  go_wp2_with fail
  refine (k1.at _).mono ?_
  rintro e w' ⟨rfl, rfl⟩
  go_wp2_with fail
  refine (k9.at _).mono ?_
  rintro e w' ⟨rfl, rfl⟩
  go_wp2_with fail
  refine (kt.at _).mono ?_
  rintro e w' ⟨rfl, rfl⟩
  go_wp2_with fail
  refine (k9.at _).mono ?_
  rintro e w' ⟨rfl, rfl⟩
  go_wp2_with fail
  refine (k10.at _).mono ?_
  rintro e w' ⟨rfl, rfl⟩
  go_wp2_with fail
  go_ret
  exact ⟨rfl, grown_drewN ((Grown.refl _).alloc _ _) _⟩

set_option maxHeartbeats 400000 in
theorem midStart (a0 : ByteArray) (i : Nat) (c : UInt8) (b : Bool) (h0 : a0.size ≤ 65536) (hi : (i : Int) ≤ (a0.size : Int)) (hi0 : (0 : Int) < (i : Int))
    (k1 : Says 6 #[.string ⟨#[c]⟩] true) (k9 : Says 9 #[.int .u8 (c.toNat : Int)] true)
    (kt : Says 6 #[.string (a0.extract 0 i ++ ⟨#[c]⟩ ++ a0.extract i a0.size)] b) (ks : Says 6 #[.string a0] b) (w : World) :
    Calls Try.prog 4 #[.string a0, .int .i64 i, .int .u8 (c.toNat : Int)] w fun e w' => e = .returned (.bool true) ∧ Grown w w' := by
  have hconv := conv c
  go_enter Try.func4, Try.ntmps4
  go_wp2_with (go_at_call 8; refine (c8s a0 _ _ _ h0).mono ?_; rintro e w' ⟨rfl, rfl⟩)
  go_quiet (fail)
  go_wp2_with fail
  refine (k1.at _).mono ?_
  rintro e w' ⟨rfl, rfl⟩
  go_wp2_with fail
  refine (k9.at _).mono ?_
  rintro e w' ⟨rfl, rfl⟩
  go_wp2_with fail
  refine (kt.at _).mono ?_
  rintro e w' ⟨rfl, rfl⟩
  go_wp2_with fail
  refine (k9.at _).mono ?_
  rintro e w' ⟨rfl, rfl⟩
  go_wp2_with fail
  refine (ks.at _).mono ?_
  rintro e w' ⟨rfl, rfl⟩
  go_wp2_with fail
  go_ret
  exact ⟨ret_bool (by simp), grown_drewN ((Grown.refl _).alloc _ _) _⟩

set_option maxHeartbeats 400000 in
theorem midDig (a0 : ByteArray) (i : Nat) (c : UInt8) (b : Bool) (h0 : a0.size ≤ 65536) (hi : (i : Int) ≤ (a0.size : Int)) (hi0 : (0 : Int) < (i : Int))
    (k1 : Says 6 #[.string ⟨#[c]⟩] false) (k9 : Says 9 #[.int .u8 (c.toNat : Int)] false) (k10 : Says 10 #[.int .u8 (c.toNat : Int)] true)
    (kt : Says 6 #[.string (a0.extract 0 i ++ ⟨#[c]⟩ ++ a0.extract i a0.size)] b) (ks : Says 6 #[.string a0] b) (w : World) :
    Calls Try.prog 4 #[.string a0, .int .i64 i, .int .u8 (c.toNat : Int)] w fun e w' => e = .returned (.bool true) ∧ Grown w w' := by
  have hconv := conv c
  go_enter Try.func4, Try.ntmps4
  go_wp2_with (go_at_call 8; refine (c8s a0 _ _ _ h0).mono ?_; rintro e w' ⟨rfl, rfl⟩)
  go_quiet (fail)
  go_wp2_with fail
  refine (k1.at _).mono ?_
  rintro e w' ⟨rfl, rfl⟩
  go_wp2_with fail
  refine (k9.at _).mono ?_
  rintro e w' ⟨rfl, rfl⟩
  go_wp2_with fail
  refine (kt.at _).mono ?_
  rintro e w' ⟨rfl, rfl⟩
  go_wp2_with fail
  refine (k9.at _).mono ?_
  rintro e w' ⟨rfl, rfl⟩
  go_wp2_with fail
  refine (k10.at _).mono ?_
  rintro e w' ⟨rfl, rfl⟩
  go_wp2_with fail
  refine (ks.at _).mono ?_
  rintro e w' ⟨rfl, rfl⟩
  go_wp2_with fail
  go_ret
  exact ⟨ret_bool (by simp), grown_drewN ((Grown.refl _).alloc _ _) _⟩

set_option maxHeartbeats 400000 in
theorem headDig (a0 : ByteArray) (i : Nat) (c : UInt8) (h0 : a0.size ≤ 65536) (hi : (i : Int) ≤ (a0.size : Int)) (hi0 : (0 : Int) ≤ (i : Int)) (hi1 : ¬ (0 : Int) < (i : Int))
    (k1 : Says 6 #[.string ⟨#[c]⟩] false) (k9 : Says 9 #[.int .u8 (c.toNat : Int)] false) (k10 : Says 10 #[.int .u8 (c.toNat : Int)] true)
    (kt : Says 6 #[.string (a0.extract 0 i ++ ⟨#[c]⟩ ++ a0.extract i a0.size)] false) (w : World) :
    Calls Try.prog 4 #[.string a0, .int .i64 i, .int .u8 (c.toNat : Int)] w fun e w' => e = .returned (.bool true) ∧ Grown w w' := by
  have hconv := conv c
  go_enter Try.func4, Try.ntmps4
  go_wp2_with (go_at_call 8; refine (c8s a0 _ _ _ h0).mono ?_; rintro e w' ⟨rfl, rfl⟩)
  go_quiet (fail)
  go_wp2_with fail
  refine (k1.at _).mono ?_
  rintro e w' ⟨rfl, rfl⟩
  go_wp2_with fail
  refine (k9.at _).mono ?_
  rintro e w' ⟨rfl, rfl⟩
  go_wp2_with fail
  refine (kt.at _).mono ?_
  rintro e w' ⟨rfl, rfl⟩
  go_wp2_with fail
  refine (k9.at _).mono ?_
  rintro e w' ⟨rfl, rfl⟩
  go_wp2_with fail
  refine (k10.at _).mono ?_
  rintro e w' ⟨rfl, rfl⟩
  go_wp2_with fail
  refine (k10.at _).mono ?_
  rintro e w' ⟨rfl, rfl⟩
  go_wp2_with fail
  go_ret
  exact ⟨rfl, grown_drewN ((Grown.refl _).alloc _ _) _⟩

set_option maxHeartbeats 400000 in
theorem headStart (a0 : ByteArray) (i : Nat) (c : UInt8) (b : Bool) (h0 : a0.size ≤ 65536) (hi : (i : Int) ≤ (a0.size : Int)) (hi0 : (0 : Int) ≤ (i : Int)) (hi1 : ¬ (0 : Int) < (i : Int))
    (k1 : Says 6 #[.string ⟨#[c]⟩] true) (k9 : Says 9 #[.int .u8 (c.toNat : Int)] true) (k10 : Says 10 #[.int .u8 (c.toNat : Int)] false)
    (kt : Says 6 #[.string (a0.extract 0 i ++ ⟨#[c]⟩ ++ a0.extract i a0.size)] b) (ku : Says 6 #[.string ((⟨#[95]⟩ : ByteArray) ++ a0)] b) (w : World) :
    Calls Try.prog 4 #[.string a0, .int .i64 i, .int .u8 (c.toNat : Int)] w fun e w' => e = .returned (.bool true) ∧ Grown w w' := by
  have hconv := conv c
  go_enter Try.func4, Try.ntmps4
  go_wp2_with (go_at_call 8; refine (c8s a0 _ _ _ h0).mono ?_; rintro e w' ⟨rfl, rfl⟩)
  go_quiet (fail)
  go_wp2_with fail
  refine (k1.at _).mono ?_
  rintro e w' ⟨rfl, rfl⟩
  go_wp2_with fail
  refine (k9.at _).mono ?_
  rintro e w' ⟨rfl, rfl⟩
  go_wp2_with fail
  refine (kt.at _).mono ?_
  rintro e w' ⟨rfl, rfl⟩
  go_wp2_with fail
  refine (k9.at _).mono ?_
  rintro e w' ⟨rfl, rfl⟩
  go_wp2_with fail
  refine (k10.at _).mono ?_
  rintro e w' ⟨rfl, rfl⟩
  go_wp2_with fail
  refine (ku.at _).mono ?_
  rintro e w' ⟨rfl, rfl⟩
  go_wp2_with fail
  go_ret
  exact ⟨ret_bool (by simp), grown_drewN ((Grown.refl _).alloc _ _) _⟩

theorem main (a0 : ByteArray) (i : Nat) (c : UInt8) (h0 : a0.size ≤ 65536) (hi : i ≤ a0.size) (w : World) :
    Calls Try.prog 4 #[.string a0, .int .i64 i, .int .u8 (c.toNat : Int)] w fun e w' => e = .returned (.bool true) ∧ Grown w w' := by
  have hi' : (i : Int) ≤ (a0.size : Int) := by omega
  have k1 : Says 6 #[.string ⟨#[c]⟩] (startB (c.toNat : Int)) := fun v => by
    have := c6 ⟨#[c]⟩ v (by unfold maxLen; show 1 ≤ _; omega)
    rwa [show isLab (ByteArray.mk #[c]).data.toList = startB (c.toNat : Int) from isLab_one c] at this
  have k9 : Says 9 #[.int .u8 (c.toNat : Int)] (startB (c.toNat : Int)) := fun v => c9 _ v
  have k10 : Says 10 #[.int .u8 (c.toNat : Int)] (digB (c.toNat : Int)) := fun v => c10 _ v
  have kt : Says 6 #[.string (ins a0 i c)] (isLab (a0.data.toList.take i ++ [c] ++ a0.data.toList.drop i)) := fun v => by
    have := c6 (ins a0 i c) v (by unfold maxLen; rw [size_ins a0 i c hi]; omega)
    rwa [data_ins a0 i c hi] at this
  have ks : Says 6 #[.string a0] (isLab a0.data.toList) := fun v => c6 a0 v (by unfold maxLen; omega)
  have ku : Says 6 #[.string ((⟨#[95]⟩ : ByteArray) ++ a0)] (isLab (95 :: a0.data.toList)) := fun v => by
    have := c6 ((⟨#[95]⟩ : ByteArray) ++ a0) v (by unfold maxLen; rw [ByteArray.size_append]; show 1 + _ ≤ _; omega)
    rwa [show ((⟨#[95]⟩ : ByteArray) ++ a0).data.toList = 95 :: a0.data.toList by simp] at this
  cases h1 : startB (c.toNat : Int)
  · rw [h1] at k1 k9
    cases h2 : digB (c.toNat : Int)
    · rw [h2] at k10
      rw [one_bad _ _ c h1 h2] at kt
      exact bad a0 i c h0 hi' k1 k9 k10 kt w
    · rw [h2] at k10
      by_cases hz : 0 < i
      · rw [one_in _ _ c (take_ne _ i hz (by simpa using hi)) (by simp [byteB, h2]), List.take_append_drop] at kt
        exact midDig a0 i c _ h0 hi' (by omega) k1 k9 k10 kt ks w
      · have e : i = 0 := by omega
        rw [show isLab (a0.data.toList.take i ++ [c] ++ a0.data.toList.drop i) = false by subst e; exact one_dig _ c h1] at kt
        exact headDig a0 i c h0 hi' (by omega) (by omega) k1 k9 k10 kt w
  · have h2 : digB (c.toNat : Int) = false := by
      cases h2 : digB (c.toNat : Int)
      · rfl
      · rw [not_both _ h2] at h1; exact absurd h1 (by decide)
    rw [h1] at k1 k9
    rw [h2] at k10
    by_cases hz : 0 < i
    · rw [one_in _ _ c (take_ne _ i hz (by simpa using hi)) (by simp [byteB, h1]), List.take_append_drop] at kt
      exact midStart a0 i c _ h0 hi' (by omega) k1 k9 kt ks w
    · have e : i = 0 := by omega
      rw [show isLab (a0.data.toList.take i ++ [c] ++ a0.data.toList.drop i) = isLab (95 :: a0.data.toList) by subst e; exact one_start _ c h1] at kt
      exact headStart a0 i c _ h0 hi' (by omega) (by omega) k1 k9 k10 kt ku w

theorem walk (a0 : ByteArray) (a1 : Int) (a2 : Int) (w0 : a0.size ≤ maxLen) (w1 : (Lit.int .i64 a1).wf = true) (w2 : (Lit.int .u8 a2).wf = true) (w : World) :
    Calls Try.prog 4 #[.string a0, .int .i64 a1, .int .u8 a2] w fun e w' => e = .returned (.bool true) ∧ Grown w w' := by
  by_cases h : 65536 < a0.size
  · exact early a0 a1 a2 w0 h w
  · by_cases h1 : a1 < 0 ∨ (a0.size : Int) < a1
    · exact outside a0 a1 a2 (by omega) h1 w
    · obtain ⟨i, rfl⟩ := Int.eq_ofNat_of_zero_le (show 0 ≤ a1 by omega)
      have b2 := bounds_u8 w2
      obtain ⟨c, rfl⟩ : ∃ c : UInt8, a2 = (c.toNat : Int) := ⟨UInt8.ofNat a2.toNat, by simp; omega⟩
      exact main a0 i c (by omega) (by omega) w

/-! ### THE ROW's STEP: WRITTEN OUT: LEAVE IT -/
set_option maxRecDepth 100000 in
theorem lifted (os : Os) (started : os.Started) (H : Type) (enc : TypeId × Value → H) :
    ReturnsInHanded {} Try.checked os 4 .any (Rows.fnIsLabelNameOneByteAnywhereSpec.pre6 enc Try.prog Try.f4 Rows.fnIsLabelNameOneByteAnywhereRow.domain false) (Rows.fnIsLabelNameOneByteAnywhereSpec.post enc Try.prog Try.f4 false true false false) := by
  refine returnsInHanded_of_change (C := Try.checked) own started (by kernel_rfl) Try.func4
    (ChangeSpec.witness6 (enc := enc) (C := Try.checked) false ⟨#[], #[.string ByteArray.empty, .int .i64 0, .int .u8 0], []⟩ 8 (by kernel_rfl) (by kernel_rfl) (by kernel_rfl) (by kernel_rfl)) ?_
  intro W base args ds gs before hval0 hW hcnd _
  have hval : ∀ (j : Nat) t v, Try.f4.params[j]? = some t → args[j]? = some v → Value.okWide Try.prog W .any base t v := hval0
  have hW' := hW
  obtain ⟨p, q, hA0, hV, rfl, hfz, hnd⟩ := hW
  have hA : DataW.TrodAll enc Try.prog W 0 (fun _ => true) true Try.f4.params.toList args.toList ds p := hA0
  rw [Try.params4] at hA hval
  obtain ⟨v0, vs0, d0, ds0, p0, q0, hargs, rfl, rfl, h0, r0⟩ := trodAll_cons hA
  obtain ⟨v1, vs1, d1, ds1, p1, q1, rfl, rfl, rfl, h1, r1⟩ := trodAll_cons r0
  obtain ⟨v2, vs2, d2, ds2, p2, q2, rfl, rfl, rfl, h2, r2⟩ := trodAll_cons r1
  obtain ⟨rfl, rfl, rfl⟩ := trodAll_nil r2
  obtain rfl : args = #[v0, v1, v2] := by cases args; simp_all
  obtain ⟨rfl, rfl⟩ := trodVars_none hV
  obtain ⟨a0, rfl, rfl, rfl, w0⟩ := open_string Try.underlying9 (hval 0 9 v0 rfl rfl) h0
  obtain ⟨a1, rfl, rfl, rfl, w1⟩ := open_int Try.underlying3 (hval 1 3 v1 rfl rfl) h1
  obtain ⟨a2, rfl, rfl, rfl, w2⟩ := open_int Try.underlying5 (hval 2 5 v2 rfl rfl) h2
  clear hA0 hval0
  simp only [List.append_nil] at hW'
  refine (walk a0 a1 a2 w0 w1 w2 W).mono fun e W' ⟨he, hg⟩ => ?_
  subst he
  exact ⟨_, rfl, post_of_same (pa := []) (pv := []) hW' (fun _ _ _ => (trodAll_cons_mk (shut_bool Try.underlying4 _) trodAll_mk0)) (fun sp _ => (trodAll_cons_mk (shut_string Try.underlying9 w0) (trodAll_cons_mk (shut_int Try.underlying3 w1) (trodAll_cons_mk (shut_int Try.underlying5 w2) trodAll_mk0)))) (fun _ _ => rfl) rfl
    (hg.frame _) hg.2.1 (ok_one (by kernel_rfl) rfl (okWide_bool_mk Try.underlying4 _))⟩

theorem over : Rows.fnIsLabelNameOneByteAnywhereRow.holds Try.pinned (OpenSpec.ofChange Rows.fnIsLabelNameOneByteAnywhereSpec) :=
  OpenClaim.holds_of_wide 4 Try.f4 rfl rfl rfl rfl rfl rfl rfl ⟨rfl, rfl, rfl, rfl, rfl⟩ rfl rfl rfl rfl rfl (by kernel_rfl) Try.func4 (by kernel_rfl)
    (of_decide_eq_true (by kernel_rfl)) (by unfold Func.isWrapper; first | (rw [if_pos (by decide +kernel)]; kernel_rfl) | (rw [if_neg (by decide +kernel)]; exact ⟨rfl, rfl⟩))
    (fun os started H enc _ => lifted os started H enc)

/-- ████ THE STATEMENT ████ -/
theorem proved : Rows.FnIsLabelNameOneByteAnywhereSaid :=
  over
end Go.Proofs.Qxb6612892a.fnIsLabelNameOneByteAnywhere
