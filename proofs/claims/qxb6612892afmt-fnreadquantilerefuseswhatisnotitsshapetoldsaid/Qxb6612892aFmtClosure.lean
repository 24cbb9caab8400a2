/-
  THE CONTRACT of the closure in readQuantile.
-/
import Derived.Test.Qxb6612892aFmtField3
namespace Go.Proofs.Qxb6612892aFmt
open Go.RowKit
open Go.Extern.Stop Go.Stop Go.Extern
set_option linter.unusedVariables false

/-- the kit's law for a store, at a float -/
theorem run_store_float {P : Program} {w : World} {a : Addr} {m : Mode} (k : FloatKind) (b : Nat) : (store a (.float k b) m).run P w = stored P w a (.float k b) m := run_store P w a _ m rfl
attribute [local go_sem] run_store_float

/-- the two cells of a quantile -/
structure Q2 (w : World) (qb : Nat) (q x : Nat) : Prop where
  c0 : w.cell? ⟨qb, 0, none⟩ = some (.float .f64 q)
  c1 : w.cell? ⟨qb, 1, none⟩ = some (.float .f64 x)
  fz : ∀ o, w.frozen? ⟨qb, o, none⟩ = false

theorem Q2.kept {w w' : World} {qb q x : Nat} {S : List Nat} (h : Q2 w qb q x) (k : Kp S w w') (hs : qb ∉ S) : Q2 w' qb q x :=
  have hb := lt_of_cell h.c0
  ⟨(k.cell hb hs).trans h.c0, (k.cell hb hs).trans h.c1, fun o => (k.frozen hb hs).trans (h.fz o)⟩

theorem Q2.set0 {w : World} {qb q x : Nat} (h : Q2 w qb q x) (q' : Nat) : Q2 (w.setCell ⟨qb, 0, none⟩ (.float .f64 q')) qb q' x :=
  ⟨World.cell?_setCell_same _ _ _ h.c0, (World.cell?_setCell_other _ _ _ _ (by simp)).trans h.c1, fun o => (World.frozen?_setCell _ _ _ _).trans (h.fz o)⟩

theorem Q2.set1 {w : World} {qb q x : Nat} (h : Q2 w qb q x) (x' : Nat) : Q2 (w.setCell ⟨qb, 1, none⟩ (.float .f64 x')) qb q x' :=
  ⟨(World.cell?_setCell_other _ _ _ _ (by simp)).trans h.c0, World.cell?_setCell_same _ _ _ h.c1, fun o => (World.frozen?_setCell _ _ _ _).trans (h.fz o)⟩

/-- how a call of the closure ends -/
def COut (qb : Nat) (w : World) (o : Option (Nat × Nat)) (e : Ending) (w' : World) : Prop :=
  ∃ q' x' ev, e = .returned ev ∧ Kp [qb] w w' ∧ Q2 w' qb q' x' ∧ ((o = none ∧ ∃ y, ev = .iface 56 y) ∨ (o = some (q', x') ∧ ev = .nilIface))

set_option maxRecDepth 100000 in
set_option maxHeartbeats 1000000 in
theorem c15e (n wi a v bA bE : Int) (s : ByteArray) (qb q x : Nat) (w : World) (hq : Q2 w qb q x) (h1 : (n == 1) = false) (h2 : (n == 2) = false) :
    Calls Tryf.prog 15 #[fld n wi a v s bA bE, .pointer (some ⟨qb, 0, none⟩)] w fun e w' => COut qb w (some (q, x)) e w' := by
  unfold fld
  have hk := hq.kept ((Kp.refl [] w).alloc (.cells #[.int .u64 n, .int .u64 wi, .int .i64 a, .int .u64 v, .string s, .int .i64 bA, .int .i64 bE] 35)) (by simp)
  go_enter Tryf.func15, Tryf.ntmps15
  go_wp2_with fail
  go_ret
  exact ⟨q, x, _, rfl, (Kp.refl _ _).alloc _, hk, Or.inr ⟨rfl, rfl⟩⟩

set_option maxRecDepth 100000 in
set_option maxHeartbeats 1000000 in
theorem c15a (a v bA bE : Int) (s : ByteArray) (qb q x : Nat) (w : World) (hq : Q2 w qb q x) :
    Calls Tryf.prog 15 #[fld 1 1 a v s bA bE, .pointer (some ⟨qb, 0, none⟩)] w fun e w' => COut qb w (some (v.toNat, x)) e w' := by
  have K := fun u => c16 1 v a bA bE s u
  unfold fld at K ⊢
  have hk := hq.kept ((Kp.refl [] w).alloc (.cells #[.int .u64 1, .int .u64 1, .int .i64 a, .int .u64 v, .string s, .int .i64 bA, .int .i64 bE] 35)) (by simp)
  have KK : Hid _ := K
  clear K
  go_enter Tryf.func15, Tryf.ntmps15
  go_wp2_with fail
  refine (KK.out _).mono ?_
  rintro e w1 ⟨rfl, k1⟩
  have hq1 := hk.kept k1 (by simp)
  obtain ⟨q0, q1, qf⟩ := hq1
  have hq1 := hk.kept k1 (by simp)
  go_wp2_with fail
  go_ret
  exact ⟨v.toNat, x, _, rfl, (((Kp.refl _ _).alloc _).trans k1.any).setCell (Or.inl (by simp)) _, hq1.set0 _, Or.inr ⟨rfl, rfl⟩⟩

set_option maxRecDepth 100000 in
set_option maxHeartbeats 1000000 in
theorem c15b (a v bA bE : Int) (s : ByteArray) (qb q x : Nat) (w : World) (hq : Q2 w qb q x) :
    Calls Tryf.prog 15 #[fld 2 1 a v s bA bE, .pointer (some ⟨qb, 0, none⟩)] w fun e w' => COut qb w (some (q, v.toNat)) e w' := by
  have K := fun u => c16 2 v a bA bE s u
  unfold fld at K ⊢
  have hk := hq.kept ((Kp.refl [] w).alloc (.cells #[.int .u64 2, .int .u64 1, .int .i64 a, .int .u64 v, .string s, .int .i64 bA, .int .i64 bE] 35)) (by simp)
  have KK : Hid _ := K
  clear K
  go_enter Tryf.func15, Tryf.ntmps15
  go_wp2_with fail
  refine (KK.out _).mono ?_
  rintro e w1 ⟨rfl, k1⟩
  have hq1 := hk.kept k1 (by simp)
  obtain ⟨q0, q1, qf⟩ := hq1
  have hq1 := hk.kept k1 (by simp)
  go_wp2_with fail
  go_ret
  exact ⟨q, v.toNat, _, rfl, (((Kp.refl _ _).alloc _).trans k1.any).setCell (Or.inl (by simp)) _, hq1.set1 _, Or.inr ⟨rfl, rfl⟩⟩

set_option maxRecDepth 100000 in
set_option maxHeartbeats 1000000 in
theorem c15c (F : Interp) (wi a v bA bE : Int) (s : ByteArray) (qb q x : Nat) (w : World) (hF : F.answers w.tape) (hq : Q2 w qb q x) (hw : (wi != 1) = true) :
    Calls Tryf.prog 15 #[fld 1 wi a v s bA bE, .pointer (some ⟨qb, 0, none⟩)] w fun e w' => COut qb w none e w' := by
  have K := fun u hu => c16no F 1 wi v a bA bE s u hu hw
  unfold fld at K ⊢
  have hk := hq.kept ((Kp.refl [] w).alloc (.cells #[.int .u64 1, .int .u64 wi, .int .i64 a, .int .u64 v, .string s, .int .i64 bA, .int .i64 bE] 35)) (by simp)
  have KK : Hid _ := K
  clear K
  go_enter Tryf.func15, Tryf.ntmps15
  go_wp2_with fail
  refine (KK.out _ (by exact hF)).mono ?_
  rintro e w1 ⟨⟨y, rfl⟩, k1⟩
  have hq1 := hk.kept k1 (by simp)
  obtain ⟨q0, q1, qf⟩ := hq1
  have hq1 := hk.kept k1 (by simp)
  go_wp2_with fail
  go_ret
  exact ⟨0, x, _, rfl, (((Kp.refl _ _).alloc _).trans k1.any).setCell (Or.inl (by simp)) _, hq1.set0 _, Or.inl ⟨rfl, y, rfl⟩⟩

set_option maxRecDepth 100000 in
set_option maxHeartbeats 1000000 in
theorem c15d (F : Interp) (wi a v bA bE : Int) (s : ByteArray) (qb q x : Nat) (w : World) (hF : F.answers w.tape) (hq : Q2 w qb q x) (hw : (wi != 1) = true) :
    Calls Tryf.prog 15 #[fld 2 wi a v s bA bE, .pointer (some ⟨qb, 0, none⟩)] w fun e w' => COut qb w none e w' := by
  have K := fun u hu => c16no F 2 wi v a bA bE s u hu hw
  unfold fld at K ⊢
  have hk := hq.kept ((Kp.refl [] w).alloc (.cells #[.int .u64 2, .int .u64 wi, .int .i64 a, .int .u64 v, .string s, .int .i64 bA, .int .i64 bE] 35)) (by simp)
  have KK : Hid _ := K
  clear K
  go_enter Tryf.func15, Tryf.ntmps15
  go_wp2_with fail
  refine (KK.out _ (by exact hF)).mono ?_
  rintro e w1 ⟨⟨y, rfl⟩, k1⟩
  have hq1 := hk.kept k1 (by simp)
  obtain ⟨q0, q1, qf⟩ := hq1
  have hq1 := hk.kept k1 (by simp)
  go_wp2_with fail
  go_ret
  exact ⟨q, 0, _, rfl, (((Kp.refl _ _).alloc _).trans k1.any).setCell (Or.inl (by simp)) _, hq1.set1 _, Or.inl ⟨rfl, y, rfl⟩⟩

theorem c15 (F : Interp) (n wi a v bA bE : Int) (s : ByteArray) (qb q x : Nat) (w : World) (hF : F.answers w.tape) (hq : Q2 w qb q x) :
    Calls Tryf.prog 15 #[fld n wi a v s bA bE, .pointer (some ⟨qb, 0, none⟩)] w fun e w' => COut qb w (take1 n wi v q x) e w' := by
  unfold take1
  by_cases h1 : n = 1
  · rw [if_pos h1]
    subst h1
    by_cases hw : wi = 1
    · rw [if_pos hw]
      subst hw
      exact c15a a v bA bE s qb q x w hq
    · rw [if_neg hw]
      exact c15c F wi a v bA bE s qb q x w hF hq (by rw [bne_iff_ne]; exact hw)
  · rw [if_neg h1]
    by_cases h2 : n = 2
    · rw [if_pos h2]
      subst h2
      by_cases hw : wi = 1
      · rw [if_pos hw]
        subst hw
        exact c15b a v bA bE s qb q x w hq
      · rw [if_neg hw]
        exact c15d F wi a v bA bE s qb q x w hF hq (by rw [bne_iff_ne]; exact hw)
    · rw [if_neg h2]
      exact c15e n wi a v bA bE s qb q x w hq (beq_eq_false_iff_ne.2 h1) (beq_eq_false_iff_ne.2 h2)

end Go.Proofs.Qxb6612892aFmt
