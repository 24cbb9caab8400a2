/-
  THE PROOF OF 'Rows.FnMemcpyFollowsBitOneAloneSaid': the frame is the kit's own template at this function; the walk is ours.
-/
import Derived.Test.Qxb6613208aRows
import Derived.WalkKit
import Derived.ProofKit
import Derived.OpenShut
import Derived.ShutString
namespace Go.Proofs.Qxb6613208a.fnMemcpyFollowsBitOneAlone
open Go.ChangeShapes Go.WideShapes Go.ChangeAt Go.RowKit
open Go.ChangeMaps (open_string shut_string)
set_option linter.unusedVariables false      -- a walk need not use every 'w<i>' (that an integer argument fits its kind)

theorem own : ownKnob Try.prog.godebug = none := by kernel_rfl

/-! ### THE PLAIN LAW: bit 1 of a byte -/
theorem xor_far (a y : BitVec 8) (h : y &&& 2#8 = 0#8) : (a ^^^ y) &&& 2#8 = a &&& 2#8 := by
  apply BitVec.eq_of_getLsbD_eq
  intro i hi
  have := congrArg (fun b => b.getLsbD i) h
  simp only [BitVec.getLsbD_and, BitVec.getLsbD_xor, BitVec.getLsbD_zero] at this ⊢
  cases h2 : (2#8).getLsbD i
  · simp
  · rw [h2] at this
    cases hy : y.getLsbD i
    · simp
    · rw [hy] at this; cases this

theorem clear_two : ∀ o : BitVec 8, (o &&& ~~~2#8) &&& 2#8 = 0#8 := by decide
theorem set_two : ∀ f : BitVec 8, ¬ (f ||| 2#8) &&& 2#8 = 0#8 := by decide
theorem flip_two : ∀ f : BitVec 8, ((f ^^^ 2#8) &&& 2#8 = 0#8) ↔ ¬ (f &&& 2#8 = 0#8) := by decide

/-- the memcpy form, by the flags -/
def mem (x : Int) : Bool := bits .and .u8 x 2 != 0

theorem wrap_nat (t : BitVec 8) : IntKind.u8.wrap ((t.toNat : Nat) : Int) = ((t.toNat : Nat) : Int) := IntWalk.u8_in _ (by have := t.isLt; omega)

theorem mem_nat (t : BitVec 8) : mem (t.toNat : Int) = true ↔ ¬ (t &&& 2#8 = 0#8) := by
  unfold mem bits
  show (IntKind.u8.wrap (((BitVec.ofInt 8 (t.toNat : Int)) &&& (BitVec.ofInt 8 2)).toNat : Int) != 0) = true ↔ _
  rw [wrap_nat, BitVec.ofInt_natCast, BitVec.ofNat_toNat, BitVec.setWidth_eq, bne_iff_ne]
  constructor
  · intro h e
    apply h
    rw [show (BitVec.ofInt 8 2) = 2#8 from rfl, e]
    rfl
  · intro h e
    apply h
    apply BitVec.eq_of_toNat_eq
    rw [show (BitVec.ofInt 8 2) = 2#8 from rfl] at e
    show (t &&& 2#8).toNat = 0
    omega

theorem bits_or2 (x : BitVec 8) : bits .or .u8 (x.toNat : Int) 2 = ((x ||| 2#8).toNat : Int) := by
  unfold bits
  show IntKind.u8.wrap (((BitVec.ofInt 8 (x.toNat : Int)) ||| (BitVec.ofInt 8 2)).toNat : Int) = _
  rw [wrap_nat, BitVec.ofInt_natCast, BitVec.ofNat_toNat, BitVec.setWidth_eq]
  rfl

theorem bits_andNot2 (x : BitVec 8) : bits .andNot .u8 (x.toNat : Int) 2 = ((x &&& ~~~2#8).toNat : Int) := by
  unfold bits
  show IntKind.u8.wrap (((BitVec.ofInt 8 (x.toNat : Int)) &&& ~~~(BitVec.ofInt 8 2)).toNat : Int) = _
  rw [wrap_nat, BitVec.ofInt_natCast, BitVec.ofNat_toNat, BitVec.setWidth_eq]
  rfl

theorem bits_xor (x y : BitVec 8) : bits .xor .u8 (x.toNat : Int) (y.toNat : Int) = ((x ^^^ y).toNat : Int) := by
  unfold bits
  show IntKind.u8.wrap (((BitVec.ofInt 8 (x.toNat : Int)) ^^^ (BitVec.ofInt 8 (y.toNat : Int))).toNat : Int) = _
  rw [wrap_nat, BitVec.ofInt_natCast, BitVec.ofInt_natCast, BitVec.ofNat_toNat, BitVec.ofNat_toNat, BitVec.setWidth_eq, BitVec.setWidth_eq]

theorem laws (f o : Int) (hf : 0 ≤ f ∧ f ≤ 255) (ho : 0 ≤ o ∧ o ≤ 255) :
    mem (bits .or .u8 f 2) = true ∧ mem (bits .andNot .u8 f 2) = false ∧ mem (bits .xor .u8 f 2) = !(mem f) ∧ mem (bits .xor .u8 f (bits .andNot .u8 o 2)) = mem f := by
  obtain ⟨x, rfl⟩ : ∃ x : BitVec 8, f = (x.toNat : Int) := ⟨BitVec.ofNat 8 f.toNat, by rw [BitVec.toNat_ofNat]; omega⟩
  obtain ⟨y, rfl⟩ : ∃ y : BitVec 8, o = (y.toNat : Int) := ⟨BitVec.ofNat 8 o.toNat, by rw [BitVec.toNat_ofNat]; omega⟩
  have e2 : bits .xor .u8 (x.toNat : Int) 2 = ((x ^^^ 2#8).toNat : Int) := bits_xor x 2#8
  rw [bits_or2, bits_andNot2, e2, bits_andNot2, bits_xor]
  refine ⟨(mem_nat _).2 (set_two x), ?_, ?_, ?_⟩
  · rw [Bool.eq_false_iff]
    intro h
    exact (mem_nat _).1 h (clear_two x)
  · rw [Bool.eq_iff_iff, mem_nat, flip_two, Bool.not_eq_true', Bool.eq_false_iff]
    show _ ↔ ¬ (mem (x.toNat : Int) = true)
    rw [mem_nat]
  · rw [Bool.eq_iff_iff, mem_nat, mem_nat, xor_far x _ (clear_two y)]

/-! ### STEP 1: THE WALK -/
set_option maxRecDepth 100000 in
set_option maxHeartbeats 400000 in
theorem c6 (a0 a1 a2 a3 a4 a5 a6 : Int) (w : World) :
    Calls Try.prog 6 #[.int .i64 a0, .int .i64 a1, .int .u8 a2, .int .i64 a3, .int .i64 a4, .int .i64 a5, .int .i64 a6] w fun e w' =>
      e = .returned (.agg #[.int .i64 a0, .int .i64 a1, .int .u8 a2, .int .i64 a3, .int .i64 a4, .int .i64 a5, .int .i64 a6]) ∧ w' = w.alloc (.cells #[.int .i64 a0, .int .i64 a1, .int .u8 a2, .int .i64 a3, .int .i64 a4, .int .i64 a5, .int .i64 a6] 23) := by
  go_enter Try.func6, Try.ntmps6
  go_wp2
  exact bodyPost_ret (v := .agg #[.int .i64 a0, .int .i64 a1, .int .u8 a2, .int .i64 a3, .int .i64 a4, .int .i64 a5, .int .i64 a6]) (by simp [results, Try.results6, go_sem]) rfl ⟨rfl, rfl⟩

set_option maxRecDepth 100000 in
set_option maxHeartbeats 400000 in
theorem c7 (a0 a1 a2 a3 a4 a5 a6 : Int) (w : World) (b : Bool) (hb : mem a2 = b) :
    Calls Try.prog 7 #[.agg #[.int .i64 a0, .int .i64 a1, .int .u8 a2, .int .i64 a3, .int .i64 a4, .int .i64 a5, .int .i64 a6]] w fun e w' =>
      e = .returned (.bool b) ∧ w' = w.alloc (.cells #[.int .i64 a0, .int .i64 a1, .int .u8 a2, .int .i64 a3, .int .i64 a4, .int .i64 a5, .int .i64 a6] 23) := by
  have HB : Hid (mem a2 = b) := hb
  clear hb
  go_enter Try.func7, Try.ntmps7
  go_wp2
  go_ret
  exact ⟨by rw [← HB.out]; rfl, rfl⟩

set_option maxRecDepth 100000 in
set_option maxHeartbeats 1000000 in
theorem walk (a0 : Int) (a1 : Int) (a2 : Int) (a3 : Int) (a4 : Int) (a5 : Int) (a6 : Int) (a7 : Int) (w0 : (Lit.int .i64 a0).wf = true) (w1 : (Lit.int .i64 a1).wf = true) (w2 : (Lit.int .u8 a2).wf = true) (w3 : (Lit.int .i64 a3).wf = true) (w4 : (Lit.int .i64 a4).wf = true) (w5 : (Lit.int .i64 a5).wf = true) (w6 : (Lit.int .i64 a6).wf = true) (w7 : (Lit.int .u8 a7).wf = true) (w : World) :
    Calls Try.prog 3 #[.int .i64 a0, .int .i64 a1, .int .u8 a2, .int .i64 a3, .int .i64 a4, .int .i64 a5, .int .i64 a6, .int .u8 a7] w fun e w' => e = .returned (.bool true) ∧ Grown w w' := by
  obtain ⟨l1, l2, l3, l4⟩ := laws a2 a7 (bounds_u8 w2) (bounds_u8 w7)
  clear w0 w1 w2 w3 w4 w5 w6 w7
  obtain ⟨m, hm⟩ : ∃ m, mem a2 = m := ⟨_, rfl⟩
  rw [hm] at l3 l4
  have L0 : Hid (mem a2 = m) := hm
  have L1 : Hid (mem (bits .or .u8 a2 2) = true) := l1
  have L2 : Hid (mem (bits .andNot .u8 a2 2) = false) := l2
  have L3 : Hid (mem (bits .xor .u8 a2 2) = !m) := l3
  have L4 : Hid (mem (bits .xor .u8 a2 (bits .andNot .u8 a7 2)) = m) := l4
  clear hm l1 l2 l3 l4
  go_enter Try.func3, Try.ntmps3
  go_wp2_with fail
  refine (c6 a0 a1 a2 a3 a4 a5 a6 _).mono ?_
  rintro e u1 ⟨rfl, rfl⟩
  go_wp2_with fail
  refine (c7 a0 a1 a2 a3 a4 a5 a6 _ _ L0.out).mono ?_
  rintro e u1 ⟨rfl, rfl⟩
  go_wp2_with fail
  refine (c6 a0 a1 _ a3 a4 a5 a6 _).mono ?_
  rintro e u1 ⟨rfl, rfl⟩
  go_wp2_with fail
  refine (c6 a0 a1 _ a3 a4 a5 a6 _).mono ?_
  rintro e u1 ⟨rfl, rfl⟩
  go_wp2_with fail
  refine (c6 a0 a1 _ a3 a4 a5 a6 _).mono ?_
  rintro e u1 ⟨rfl, rfl⟩
  go_wp2_with fail
  refine (c6 a0 a1 _ a3 a4 a5 a6 _).mono ?_
  rintro e u1 ⟨rfl, rfl⟩
  go_wp2_with fail
  refine (c7 a0 a1 _ a3 a4 a5 a6 _ _ L1.out).mono ?_
  rintro e u1 ⟨rfl, rfl⟩
  go_wp2_with fail
  refine (c7 a0 a1 _ a3 a4 a5 a6 _ _ L2.out).mono ?_
  rintro e u1 ⟨rfl, rfl⟩
  go_wp2_with fail
  refine (c7 a0 a1 _ a3 a4 a5 a6 _ _ L3.out).mono ?_
  rintro e u1 ⟨rfl, rfl⟩
  cases m
  all_goals
    go_wp2_with fail
    refine (c7 a0 a1 _ a3 a4 a5 a6 _ _ L4.out).mono ?_
    rintro e u1 ⟨rfl, rfl⟩
    go_wp2_with fail
    go_ret
    exact ⟨rfl, by repeat (first | refine Grown.alloc ?_ _ _ | exact Grown.refl _)⟩

/-! ### THE ROW's STEP: WRITTEN OUT: LEAVE IT -/
set_option maxRecDepth 100000 in
theorem lifted (os : Os) (started : os.Started) (H : Type) (enc : TypeId × Value → H) :
    ReturnsInHanded {} Try.checked os 3 .any (Rows.fnMemcpyFollowsBitOneAloneSpec.pre6 enc Try.prog Try.f3 Rows.fnMemcpyFollowsBitOneAloneRow.domain false) (Rows.fnMemcpyFollowsBitOneAloneSpec.post enc Try.prog Try.f3 false true false false) := by
  refine returnsInHanded_of_change (C := Try.checked) own started (by kernel_rfl) Try.func3
    (ChangeSpec.witness6 (enc := enc) (C := Try.checked) false ⟨#[], #[.int .i64 0, .int .i64 0, .int .u8 0, .int .i64 0, .int .i64 0, .int .i64 0, .int .i64 0, .int .u8 0], []⟩ 8 (by kernel_rfl) (by kernel_rfl) (by kernel_rfl) (by kernel_rfl)) ?_
  intro W base args ds gs before hval0 hW hcnd _
  have hval : ∀ (j : Nat) t v, Try.f3.params[j]? = some t → args[j]? = some v → Value.okWide Try.prog W .any base t v := hval0
  have hW' := hW
  obtain ⟨p, q, hA0, hV, rfl, hfz, hnd⟩ := hW
  have hA : DataW.TrodAll enc Try.prog W 0 (fun _ => true) true Try.f3.params.toList args.toList ds p := hA0
  rw [Try.params3] at hA hval
  obtain ⟨v0, vs0, d0, ds0, p0, q0, hargs, rfl, rfl, h0, r0⟩ := trodAll_cons hA
  obtain ⟨v1, vs1, d1, ds1, p1, q1, rfl, rfl, rfl, h1, r1⟩ := trodAll_cons r0
  obtain ⟨v2, vs2, d2, ds2, p2, q2, rfl, rfl, rfl, h2, r2⟩ := trodAll_cons r1
  obtain ⟨v3, vs3, d3, ds3, p3, q3, rfl, rfl, rfl, h3, r3⟩ := trodAll_cons r2
  obtain ⟨v4, vs4, d4, ds4, p4, q4, rfl, rfl, rfl, h4, r4⟩ := trodAll_cons r3
  obtain ⟨v5, vs5, d5, ds5, p5, q5, rfl, rfl, rfl, h5, r5⟩ := trodAll_cons r4
  obtain ⟨v6, vs6, d6, ds6, p6, q6, rfl, rfl, rfl, h6, r6⟩ := trodAll_cons r5
  obtain ⟨v7, vs7, d7, ds7, p7, q7, rfl, rfl, rfl, h7, r7⟩ := trodAll_cons r6
  obtain ⟨rfl, rfl, rfl⟩ := trodAll_nil r7
  obtain rfl : args = #[v0, v1, v2, v3, v4, v5, v6, v7] := by cases args; simp_all
  obtain ⟨rfl, rfl⟩ := trodVars_none hV
  obtain ⟨a0, rfl, rfl, rfl, w0⟩ := open_int Try.underlying3 (hval 0 3 v0 rfl rfl) h0
  obtain ⟨a1, rfl, rfl, rfl, w1⟩ := open_int Try.underlying3 (hval 1 3 v1 rfl rfl) h1
  obtain ⟨a2, rfl, rfl, rfl, w2⟩ := open_int Try.underlying5 (hval 2 5 v2 rfl rfl) h2
  obtain ⟨a3, rfl, rfl, rfl, w3⟩ := open_int Try.underlying3 (hval 3 3 v3 rfl rfl) h3
  obtain ⟨a4, rfl, rfl, rfl, w4⟩ := open_int Try.underlying3 (hval 4 3 v4 rfl rfl) h4
  obtain ⟨a5, rfl, rfl, rfl, w5⟩ := open_int Try.underlying3 (hval 5 3 v5 rfl rfl) h5
  obtain ⟨a6, rfl, rfl, rfl, w6⟩ := open_int Try.underlying3 (hval 6 3 v6 rfl rfl) h6
  obtain ⟨a7, rfl, rfl, rfl, w7⟩ := open_int Try.underlying5 (hval 7 5 v7 rfl rfl) h7
  clear hA0 hval0
  simp only [List.append_nil] at hW'
  refine (walk a0 a1 a2 a3 a4 a5 a6 a7 w0 w1 w2 w3 w4 w5 w6 w7 W).mono fun e W' ⟨he, hg⟩ => ?_
  subst he
  exact ⟨_, rfl, post_of_same (pa := []) (pv := []) hW' (fun _ _ _ => (trodAll_cons_mk (shut_bool Try.underlying4 _) trodAll_mk0)) (fun sp _ => (trodAll_cons_mk (shut_int Try.underlying3 w0) (trodAll_cons_mk (shut_int Try.underlying3 w1) (trodAll_cons_mk (shut_int Try.underlying5 w2) (trodAll_cons_mk (shut_int Try.underlying3 w3) (trodAll_cons_mk (shut_int Try.underlying3 w4) (trodAll_cons_mk (shut_int Try.underlying3 w5) (trodAll_cons_mk (shut_int Try.underlying3 w6) (trodAll_cons_mk (shut_int Try.underlying5 w7) trodAll_mk0))))))))) (fun _ _ => rfl) rfl
    (hg.frame _) hg.2.1 (ok_one (by kernel_rfl) rfl (okWide_bool_mk Try.underlying4 _))⟩

theorem over : Rows.fnMemcpyFollowsBitOneAloneRow.holds Try.pinned (OpenSpec.ofChange Rows.fnMemcpyFollowsBitOneAloneSpec) :=
  OpenClaim.holds_of_wide 3 Try.f3 rfl rfl rfl rfl rfl rfl rfl ⟨rfl, rfl, rfl, rfl, rfl⟩ rfl rfl rfl rfl rfl (by kernel_rfl) Try.func3 (by kernel_rfl)
    (of_decide_eq_true (by kernel_rfl)) (by unfold Func.isWrapper; first | (rw [if_pos (by decide +kernel)]; kernel_rfl) | (rw [if_neg (by decide +kernel)]; exact ⟨rfl, rfl⟩))
    (fun os started H enc _ => lifted os started H enc)

/-- ████ THE STATEMENT ████ -/
theorem proved : Rows.FnMemcpyFollowsBitOneAloneSaid :=
  over
end Go.Proofs.Qxb6613208a.fnMemcpyFollowsBitOneAlone
