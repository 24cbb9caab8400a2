/-
  THE CONTRACT of (*protoMessage).field.
-/
import Derived.Test.Qxb6612892aFmtCells
namespace Go.Proofs.Qxb6612892aFmt
open Go.RowKit
open Go.Extern.Stop Go.Stop Go.Extern
set_option linter.unusedVariables false
attribute [local go_sem] Tryf.call22 Tryf.guard Tryf.fmt1 Tryf.fmt1r Tryf.fmt2 Tryf.fmt2r Tryf.op31_100 Tryf.op22_100

/-- the world at the first call of varint -/
def W21 (w : World) (at_ : Nat) : World :=
  (w.alloc (.cells #[.int .u64 0, .int .u64 0, .int .i64 0, .int .u64 0, .string ⟨#[]⟩, .int .i64 0, .int .i64 0] 35)).alloc (.cells #[.int .u64 0, .int .u64 0, .int .i64 at_, .int .u64 0, .string ⟨#[]⟩, .int .i64 0, .int .i64 0] 35)

theorem start21 {mb : Nat} {s : ByteArray} {at_ en : Nat} {w : World} (hm : Msg w mb s at_ en) :
    Msg (W21 w at_) mb s at_ en ∧ Cells7 (W21 w at_) w.heap.size 0 0 0 0 ⟨#[]⟩ 0 0 ∧ Cells7 (W21 w at_) (w.heap.size + 1) 0 0 at_ 0 ⟨#[]⟩ 0 0 ∧ Kp [mb] w (W21 w at_) ∧ (W21 w at_).tape = w.tape := by
  refine ⟨hm.kept (((Kp.refl [] w).alloc _).alloc _) (by simp), ?_, ?_, ((Kp.refl _ w).alloc _).alloc _, rfl⟩
  · exact (Cells7.new w 0 0 0 0 ⟨#[]⟩ 0 0).kept ((Kp.refl [] _).alloc _) (by simp)
  · have := Cells7.new (w.alloc (.cells #[.int .u64 0, .int .u64 0, .int .i64 0, .int .u64 0, .string ⟨#[]⟩, .int .i64 0, .int .i64 0] 35)) 0 0 at_ 0 ⟨#[]⟩ 0 0
    rw [World.size_alloc] at this
    exact this

set_option maxRecDepth 100000 in
set_option maxHeartbeats 1000000 in
theorem c21a (F : Interp) (mb : Nat) (s : ByteArray) (at_ en : Nat) (w : World) (hF : F.answers w.tape) (hm : Msg w mb s at_ en) (hle : at_ ≤ en) (hs : en ≤ s.size) (hsz : s.size ≤ 1048576)
    (ho : vint 10 0 0 (rs s at_ en) = none) :
    Calls Tryf.prog 21 #[.pointer (some ⟨mb, 0, none⟩)] w fun e w' => GOut mb s en w none e w' := by
  have hmb := lt_of_cell hm.c0
  obtain ⟨hm1, hR, hB, hk0, ht0⟩ := start21 hm
  have HO : Hid (vint 10 0 0 (rs s at_ en) = none) := ho
  clear ho
  obtain ⟨h0, h1, h2, hf⟩ := hm
  go_enter Tryf.func21, Tryf.ntmps21
  go_wp2_with fail
  refine (c23 mb s at_ en _ none (by exact hm1) hle hs hsz HO.out).mono ?_
  rintro e w1 ⟨⟨x, rfl⟩, hk⟩
  have hR1 := hR.kept (S := []) hk (by simp)
  obtain ⟨r0, r1, r2, r3, r4, r5, r6, rf⟩ := hR1
  obtain ⟨b0, b1, b2, b3, b4, b5, b6, bf⟩ := hB.kept (S := []) hk (by simp)
  have hR1 := hR.kept (S := []) hk (by simp)
  have gk := hk0.trans hk.any
  clear hk hR hB hk0 hm1 HO
  go_wp2_with fail
  obtain ⟨q0, q1, q2, q3, q4, q5, q6, qf⟩ := cells_put7 hR1 0 0 at_ 0 ⟨#[]⟩ 0 0
  have qk := kp_put7 gk (Or.inr (Nat.le_refl _)) 0 0 at_ 0 ⟨#[]⟩ 0 0
  unfold put7 at q0 q1 q2 q3 q4 q5 q6 qk
  refine bodyPost_ret (v := .tuple #[fld 0 0 at_ 0 ⟨#[]⟩ 0 0, .iface 56 x]) (by unfold fld; simp [results, Tryf.results21, go_sem, q0, q1, q2, q3, q4, q5, q6]) rfl ?_
  exact GOut.no rfl _ _ _ _ _ _ _ x qk

end Go.Proofs.Qxb6612892aFmt
