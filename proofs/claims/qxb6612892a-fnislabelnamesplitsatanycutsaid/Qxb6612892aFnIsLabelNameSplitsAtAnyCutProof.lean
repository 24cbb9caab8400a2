/-
  THE PROOF OF 'Rows.FnIsLabelNameSplitsAtAnyCutSaid': the frame is the kit's own template at this function; the walk is ours.
-/
import Derived.Test.Qxb6612892aRows
import Derived.Test.Qxb6612892aLab
import Derived.WalkKit
import Derived.ProofKit
import Derived.OpenShut
import Derived.ShutString
namespace Go.Proofs.Qxb6612892a.fnIsLabelNameSplitsAtAnyCut
open Go.ChangeShapes Go.WideShapes Go.ChangeAt Go.RowKit
open Go.ChangeMaps (open_string shut_string)
open Lab
set_option linter.unusedVariables false      -- a walk need not use every 'w<i>' (that an integer argument fits its kind)

theorem own : ownKnob Try.prog.godebug = none := by kernel_rfl

/-! ### STEP 1: THE WALK -/
theorem data_app (a b : ByteArray) : (a ++ b).data.toList = a.data.toList ++ b.data.toList := by simp

theorem laws (a b : ByteArray) (h : 0 < a.size) :
    isLab (a ++ b).data.toList = (isLab a.data.toList && isLab ((⟨#[95]⟩ : ByteArray) ++ b).data.toList) ∧ allB b.data.toList = isLab ((⟨#[95]⟩ : ByteArray) ++ b).data.toList := by
  have hne : a.data.toList ≠ [] := by
    intro e
    have : a.size = 0 := by
      have l : a.data.toList.length = 0 := by rw [e]; rfl
      simpa using l
    omega
  have l := law_cut a.data.toList b.data.toList hne
  simp only [beq_iff_eq] at l
  rw [data_app, data_app]
  exact ⟨l.1, l.2.symm⟩

set_option maxHeartbeats 400000 in
theorem early (a0 : ByteArray) (a1 : ByteArray) (w0 : a0.size ≤ maxLen) (w1 : a1.size ≤ maxLen) (h : 65536 < a0.size ∨ 65536 < a1.size) (w : World) :
    Calls Try.prog 3 #[.string a0, .string a1] w fun e w' => e = .returned (.bool true) ∧ Grown w w' := by
  rcases h with h | h
  · go_enter Try.func3, Try.ntmps3
    go_wp2_with (go_at_call 5; refine (c5 a0 a1 _ w0 w1).mono ?_; rintro e w' ⟨⟨r, rfl⟩, rfl⟩; cases r)
    all_goals (go_ret; exact ⟨rfl, Grown.refl _⟩)
  · by_cases h' : 65536 < a0.size
    all_goals
      go_enter Try.func3, Try.ntmps3
      go_wp2_with (go_at_call 5; refine (c5 a0 a1 _ w0 w1).mono ?_; rintro e w' ⟨⟨r, rfl⟩, rfl⟩; cases r)
      all_goals (go_ret; exact ⟨rfl, Grown.refl _⟩)

set_option maxHeartbeats 400000 in
theorem nothing (a0 : ByteArray) (a1 : ByteArray) (h0 : a0.size = 0) (h1 : a1.size ≤ 65536) (w : World) :
    Calls Try.prog 3 #[.string a0, .string a1] w fun e w' => e = .returned (.bool true) ∧ Grown w w' := by
  have e := empty_of a0 h0
  subst e
  go_enter Try.func3, Try.ntmps3
  go_wp2_with (go_at_call 5; refine (c5s _ a1 _ (Nat.zero_le _) h1).mono ?_; rintro e w' ⟨rfl, rfl⟩)
  go_ret
  exact ⟨rfl, Grown.refl _⟩

set_option maxHeartbeats 400000 in
theorem main (a0 : ByteArray) (a1 : ByteArray) (h0 : a0.size ≤ 65536) (h1 : a1.size ≤ 65536) (hp : 0 < a0.size) (w : World) :
    Calls Try.prog 3 #[.string a0, .string a1] w fun e w' => e = .returned (.bool true) ∧ Grown w w' := by
  have hne := ne_empty a0 hp
  obtain ⟨hx, ht⟩ := laws a0 a1 hp
  have s1 : (a0 ++ a1).size ≤ maxLen := by unfold maxLen; rw [ByteArray.size_append]; omega
  have s2 : ((⟨#[95]⟩ : ByteArray) ++ a1).size ≤ maxLen := by unfold maxLen; rw [ByteArray.size_append]; show 1 + _ ≤ _; omega
  have s3 : a0.size ≤ maxLen := by unfold maxLen; omega
  have s4 : a1.size ≤ maxLen := by unfold maxLen; omega
  have k1 := fun v => c6 (a0 ++ a1) v s1
  have k2 := fun v => c6 ((⟨#[95]⟩ : ByteArray) ++ a1) v s2
  have k3 := fun v => c6 a0 v s3
  have k4 := fun v => c7 a1 v s4
  rw [hx] at k1
  rw [ht] at k4
  generalize isLab a0.data.toList = y at k1 k3
  generalize isLab ((⟨#[95]⟩ : ByteArray) ++ a1).data.toList = z at k1 k2 k4
  clear hx ht
  have K1 : Hid _ := k1
  have K2 : Hid _ := k2
  have K3 : Hid _ := k3
  have K4 : Hid _ := k4
  clear k1 k2 k3 k4
  cases y <;> cases z
  all_goals
    go_enter Try.func3, Try.ntmps3
    go_wp2_with (go_at_call 5; refine (c5s _ a1 _ h0 h1).mono ?_; rintro e w' ⟨rfl, rfl⟩)
    refine (K1.out _).mono ?_
    rintro e w' ⟨rfl, rfl⟩
    go_wp2_with fail
    refine (K3.out _).mono ?_
    rintro e w' ⟨rfl, rfl⟩
    go_wp2_with fail
    refine (K2.out _).mono ?_
    rintro e w' ⟨rfl, rfl⟩
    go_wp2_with fail
    refine (K4.out _).mono ?_
    rintro e w' ⟨rfl, rfl⟩
    go_wp2_with fail
    go_ret
    exact ⟨rfl, Grown.refl _⟩

theorem walk (a0 : ByteArray) (a1 : ByteArray) (w0 : a0.size ≤ maxLen) (w1 : a1.size ≤ maxLen) (w : World) :
    Calls Try.prog 3 #[.string a0, .string a1] w fun e w' => e = .returned (.bool true) ∧ Grown w w' := by
  by_cases h : 65536 < a0.size ∨ 65536 < a1.size
  · exact early a0 a1 w0 w1 h w
  · by_cases hp : a0.size = 0
    · exact nothing a0 a1 hp (by omega) w
    · exact main a0 a1 (by omega) (by omega) (by omega) w

/-! ### THE ROW's STEP: WRITTEN OUT: LEAVE IT -/
set_option maxRecDepth 100000 in
theorem lifted (os : Os) (started : os.Started) (H : Type) (enc : TypeId × Value → H) :
    ReturnsInHanded {} Try.checked os 3 .any (Rows.fnIsLabelNameSplitsAtAnyCutSpec.pre6 enc Try.prog Try.f3 Rows.fnIsLabelNameSplitsAtAnyCutRow.domain false) (Rows.fnIsLabelNameSplitsAtAnyCutSpec.post enc Try.prog Try.f3 false true false false) := by
  refine returnsInHanded_of_change (C := Try.checked) own started (by kernel_rfl) Try.func3
    (ChangeSpec.witness6 (enc := enc) (C := Try.checked) false ⟨#[], #[.string ByteArray.empty, .string ByteArray.empty], []⟩ 8 (by kernel_rfl) (by kernel_rfl) (by kernel_rfl) (by kernel_rfl)) ?_
  intro W base args ds gs before hval0 hW hcnd _
  have hval : ∀ (j : Nat) t v, Try.f3.params[j]? = some t → args[j]? = some v → Value.okWide Try.prog W .any base t v := hval0
  have hW' := hW
  obtain ⟨p, q, hA0, hV, rfl, hfz, hnd⟩ := hW
  have hA : DataW.TrodAll enc Try.prog W 0 (fun _ => true) true Try.f3.params.toList args.toList ds p := hA0
  rw [Try.params3] at hA hval
  obtain ⟨v0, vs0, d0, ds0, p0, q0, hargs, rfl, rfl, h0, r0⟩ := trodAll_cons hA
  obtain ⟨v1, vs1, d1, ds1, p1, q1, rfl, rfl, rfl, h1, r1⟩ := trodAll_cons r0
  obtain ⟨rfl, rfl, rfl⟩ := trodAll_nil r1
  obtain rfl : args = #[v0, v1] := by cases args; simp_all
  obtain ⟨rfl, rfl⟩ := trodVars_none hV
  obtain ⟨a0, rfl, rfl, rfl, w0⟩ := open_string Try.underlying9 (hval 0 9 v0 rfl rfl) h0
  obtain ⟨a1, rfl, rfl, rfl, w1⟩ := open_string Try.underlying9 (hval 1 9 v1 rfl rfl) h1
  clear hA0 hval0
  simp only [List.append_nil] at hW'
  refine (walk a0 a1 w0 w1 W).mono fun e W' ⟨he, hg⟩ => ?_
  subst he
  exact ⟨_, rfl, post_of_same (pa := []) (pv := []) hW' (fun _ _ _ => (trodAll_cons_mk (shut_bool Try.underlying4 _) trodAll_mk0)) (fun sp _ => (trodAll_cons_mk (shut_string Try.underlying9 w0) (trodAll_cons_mk (shut_string Try.underlying9 w1) trodAll_mk0))) (fun _ _ => rfl) rfl
    (hg.frame _) hg.2.1 (ok_one (by kernel_rfl) rfl (okWide_bool_mk Try.underlying4 _))⟩

theorem over : Rows.fnIsLabelNameSplitsAtAnyCutRow.holds Try.pinned (OpenSpec.ofChange Rows.fnIsLabelNameSplitsAtAnyCutSpec) :=
  OpenClaim.holds_of_wide 3 Try.f3 rfl rfl rfl rfl rfl rfl rfl ⟨rfl, rfl, rfl, rfl, rfl⟩ rfl rfl rfl rfl rfl (by kernel_rfl) Try.func3 (by kernel_rfl)
    (of_decide_eq_true (by kernel_rfl)) (by unfold Func.isWrapper; first | (rw [if_pos (by decide +kernel)]; kernel_rfl) | (rw [if_neg (by decide +kernel)]; exact ⟨rfl, rfl⟩))
    (fun os started H enc _ => lifted os started H enc)

/-- ████ THE STATEMENT ████ -/
theorem proved : Rows.FnIsLabelNameSplitsAtAnyCutSaid :=
  over
end Go.Proofs.Qxb6612892a.fnIsLabelNameSplitsAtAnyCut
