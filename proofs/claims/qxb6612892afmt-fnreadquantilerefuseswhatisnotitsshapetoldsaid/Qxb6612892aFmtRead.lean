/-
  THE CONTRACTS of (protoField).each, readQuantile, ZZreadQuantile.
-/
import Derived.Test.Qxb6612892aFmtEach
namespace Go.Proofs.Qxb6612892aFmt
open Go.RowKit
open Go.Extern.Stop Go.Stop Go.Extern
set_option linter.unusedVariables false
attribute [local go_sem] run_store_float

set_option maxRecDepth 100000 in
set_option maxHeartbeats 1000000 in
theorem c14no (F : Interp) (n wi a v bA bE : Int) (s : ByteArray) (qb q x : Nat) (w : World) (hF : F.answers w.tape) (hq : Q2 w qb q x) (hw : (wi != 2) = true) :
    Calls Tryf.prog 14 #[fld n wi a v s bA bE, clo qb] w fun e w' => COut qb w none e w' ∧ Q2 w' qb q x := by
  have HC := fun u hu => c17no F n wi v a bA bE s u hu hw
  unfold clo
  unfold fld at HC ⊢
  have hq0 := hq.kept ((Kp.refl [] w).alloc (.cells #[.int .u64 n, .int .u64 wi, .int .i64 a, .int .u64 v, .string s, .int .i64 bA, .int .i64 bE] 35)) (by simp)
  have HCC : Hid _ := HC
  clear HC
  go_enter Tryf.func14, Tryf.ntmps14
  go_wp2_with fail
  refine (HCC.out _ (by exact hF)).mono ?_
  rintro e w1 ⟨⟨y, rfl⟩, k1⟩
  have hq1 := (hq0.kept k1 (by simp)).kept ((Kp.refl [] w1).alloc (.cells #[.string ⟨#[]⟩, .int .i64 0, .int .i64 0] 33)) (by simp)
  go_wp2_with fail
  go_ret
  exact ⟨⟨q, x, _, rfl, ((((Kp.refl _ _).alloc _).trans k1).alloc _).any, hq1, Or.inl ⟨rfl, y, rfl⟩⟩, hq1⟩

set_option maxRecDepth 100000 in
set_option maxHeartbeats 1000000 in
theorem c14 (F : Interp) (n a v : Int) (at_ en : Nat) (s : ByteArray) (qb q x : Nat) (w : World) (hF : F.answers w.tape) (hq : Q2 w qb q x) (hle : at_ ≤ en) (hs : en ≤ s.size) (hsz : s.size ≤ 1048576) :
    Calls Tryf.prog 14 #[fld n 2 a v s at_ en, clo qb] w fun e w' => COut qb w (rd (rs s at_ en) q x) e w' := by
  have HC := fun u => c17 n v a at_ en s u
  have HE := fun u hu hqu => c18 F s at_ en qb q x u _ hu hqu hle hs hsz rfl
  unfold clo at HE ⊢
  unfold fld at HC ⊢
  have hq0 := hq.kept ((Kp.refl [] w).alloc (.cells #[.int .u64 n, .int .u64 2, .int .i64 a, .int .u64 v, .string s, .int .i64 at_, .int .i64 en] 35)) (by simp)
  have HCC : Hid _ := HC
  have HEE : Hid _ := HE
  clear HC HE
  go_enter Tryf.func14, Tryf.ntmps14
  go_wp2_with fail
  refine (HCC.out _).mono ?_
  rintro e w1 ⟨rfl, k1⟩
  have hq1 := (hq0.kept k1 (by simp)).kept ((Kp.refl [] w1).alloc (.cells #[.string s, .int .i64 at_, .int .i64 en] 33)) (by simp)
  have gF : F.answers w1.tape := by rw [k1.tape]; exact hF
  have gk : Kp [qb] w (w1.alloc (.cells #[.string s, .int .i64 at_, .int .i64 en] 33)) := ((((Kp.refl _ _).alloc _).trans k1).alloc _).any
  go_wp2_with fail
  refine (HEE.out _ (by exact gF) (by exact hq1)).mono ?_
  rintro e w2 ⟨q2, x2, ev, rfl, k2, hq2, hh⟩
  have HH : Hid _ := hh
  have HQ2 : Hid (Q2 w2 qb q2 x2) := hq2
  clear hh hq2 HEE HCC
  go_wp2_with fail
  go_ret
  exact ⟨q2, x2, ev, rfl, gk.trans k2, HQ2.out, HH.out⟩

/-- how readQuantile ends -/
def ROut (w : World) (o : Option (Nat × Nat)) (e : Ending) (w' : World) : Prop :=
  ∃ q x ev, e = .returned (.tuple #[.agg #[.float .f64 q, .float .f64 x], ev]) ∧ Kp [] w w' ∧ ((o = none ∧ ∃ y, ev = .iface 56 y) ∨ (o = some (q, x) ∧ ev = .nilIface))

/-- the world at readQuantile's call -/
def W12 (w : World) (n wi a v : Int) (s : ByteArray) (p q : Int) : World :=
  ((w.alloc (.cells #[.int .u64 n, .int .u64 wi, .int .i64 a, .int .u64 v, .string s, .int .i64 p, .int .i64 q] 35)).alloc (.cells #[.float .f64 0, .float .f64 0] 42)).alloc (.cells #[.float .f64 0, .float .f64 0] 42)

theorem start12 (w : World) (n wi a v : Int) (s : ByteArray) (p q : Int) :
    Q2 (W12 w n wi a v s p q) (w.heap.size + 1 + 1) 0 0 ∧ Q2 (W12 w n wi a v s p q) (w.heap.size + 1) 0 0 ∧ Kp [] w (W12 w n wi a v s p q) ∧ (W12 w n wi a v s p q).tape = w.tape := by
  have new : ∀ u : World, Q2 (u.alloc (.cells #[.float .f64 0, .float .f64 0] 42)) u.heap.size 0 0 := fun u => by constructor <;> simp
  refine ⟨?_, ?_, (((Kp.refl _ _).alloc _).alloc _).alloc _, rfl⟩
  · have := new ((w.alloc (.cells #[.int .u64 n, .int .u64 wi, .int .i64 a, .int .u64 v, .string s, .int .i64 p, .int .i64 q] 35)).alloc (.cells #[.float .f64 0, .float .f64 0] 42))
    rw [World.size_alloc, World.size_alloc] at this
    exact this
  · have := new (w.alloc (.cells #[.int .u64 n, .int .u64 wi, .int .i64 a, .int .u64 v, .string s, .int .i64 p, .int .i64 q] 35))
    rw [World.size_alloc] at this
    exact this.kept ((Kp.refl [] _).alloc _) (by simp)

theorem Q2.set {w : World} {b q x : Nat} (h : Q2 w b q x) (q' x' : Nat) : Q2 ((w.setCell ⟨b, 0, none⟩ (.float .f64 q')).setCell ⟨b, 1, none⟩ (.float .f64 x')) b q' x' := (h.set0 q').set1 x'

theorem res12 {u : World} {b q x : Nat} (h : Q2 u b q x) (tmps : Array Value) (ev : Value) (h2 : tmps[2]?.getD undef = .pointer (some ⟨b, 0, none⟩)) (h3 : tmps[3]?.getD undef = ev) :
    (results Tryf.f12 tmps).run Tryf.prog u = .ok (.tuple #[.agg #[.float .f64 q, .float .f64 x], ev]) u := by
  obtain ⟨q0, q1, qf⟩ := h
  simp [results, Tryf.results12, go_sem, h2, h3, q0, q1]

set_option maxRecDepth 100000 in
set_option maxHeartbeats 1000000 in
/-- readQuantile, out of what the field's each does -/
theorem c12of (n wi a v bA bE : Int) (s : ByteArray) (w : World) (o : Option (Nat × Nat)) (P : Nat → Nat → Prop)
    (hc : ∀ u qb, u = W12 w n wi a v s bA bE → qb = w.heap.size + 1 + 1 → Calls Tryf.prog 14 #[fld n wi a v s bA bE, clo qb] u fun e w' => ∃ q x ev, e = .returned ev ∧ Kp [qb] u w' ∧ Q2 w' qb q x ∧ P q x ∧ ((o = none ∧ ∃ y, ev = .iface 56 y) ∨ (o = some (q, x) ∧ ev = .nilIface))) :
    Calls Tryf.prog 12 #[fld n wi a v s bA bE] w fun e w' => ∃ q x ev, e = .returned (.tuple #[.agg #[.float .f64 q, .float .f64 x], ev]) ∧ Kp [] w w' ∧ P q x ∧ ((o = none ∧ ∃ y, ev = .iface 56 y) ∨ (o = some (q, x) ∧ ev = .nilIface)) := by
  obtain ⟨hq0, hr0, hk0, ht0⟩ := start12 w n wi a v s bA bE
  have HCC := hc _ _ rfl rfl
  unfold clo at HCC
  unfold fld at HCC ⊢
  have HC : Hid (Calls Tryf.prog 14 #[.agg #[.int .u64 n, .int .u64 wi, .int .i64 a, .int .u64 v, .string s, .int .i64 bA, .int .i64 bE], .func (Fn.func 15) #[] #[.pointer (some ⟨w.heap.size + 1 + 1, 0, none⟩)]] (W12 w n wi a v s bA bE) fun e w' => ∃ q x ev, e = .returned ev ∧ Kp [w.heap.size + 1 + 1] (W12 w n wi a v s bA bE) w' ∧ Q2 w' (w.heap.size + 1 + 1) q x ∧ P q x ∧ ((o = none ∧ ∃ y, ev = .iface 56 y) ∨ (o = some (q, x) ∧ ev = .nilIface))) := HCC
  clear HCC hc
  go_enter Tryf.func12, Tryf.ntmps12
  go_wp2_with fail
  refine (Calls.mono HC.out ?_)
  rintro e w1 ⟨q, x, ev, rfl, k1, hq1, hp, hh⟩
  have hr1 := hr0.kept k1 (by simp)
  have HH : Hid _ := hh
  have HP : Hid (P q x) := hp
  have HK : Hid (Kp [] w w1) := hk0.then k1 (fun i hi => Or.inr (by simp at hi; omega))
  have hr2 := hr1
  obtain ⟨q0, q1, qf⟩ := hq1
  obtain ⟨r0, r1, rf⟩ := hr1
  clear hh hp k1 HC hk0 hq0 hr0 ht0
  go_wp2_with fail
  exact bodyPost_ret (res12 (hr2.set q x) _ ev rfl rfl) rfl ⟨q, x, ev, rfl, (HK.out.setCell (Or.inr (by simp)) _).setCell (Or.inr (by simp)) _, HP.out, HH.out⟩

set_option maxRecDepth 100000 in
set_option maxHeartbeats 1000000 in
/-- ZZreadQuantile, out of what readQuantile does -/
theorem c7of (f : Value) (n wi a v bA bE : Int) (s : ByteArray) (w : World) (o : Option (Nat × Nat)) (P : Nat → Nat → Prop) (hf : f = fld n wi a v s bA bE)
    (hc : ∀ u, u = w.alloc (.cells #[.int .u64 n, .int .u64 wi, .int .i64 a, .int .u64 v, .string s, .int .i64 bA, .int .i64 bE] 35) → Calls Tryf.prog 12 #[fld n wi a v s bA bE] u fun e w' => ∃ q x ev, e = .returned (.tuple #[.agg #[.float .f64 q, .float .f64 x], ev]) ∧ Kp [] u w' ∧ P q x ∧ ((o = none ∧ ∃ y, ev = .iface 56 y) ∨ (o = some (q, x) ∧ ev = .nilIface))) :
    Calls Tryf.prog 7 #[f] w fun e w' => ∃ q x ev, e = .returned (.tuple #[.float .f64 q, .float .f64 x, ev]) ∧ Kp [] w w' ∧ P q x ∧ ((o = none ∧ ∃ y, ev = .iface 56 y) ∨ (o = some (q, x) ∧ ev = .nilIface)) := by
  subst hf
  have HCC := hc _ rfl
  unfold fld at HCC ⊢
  clear hc
  have HC : Hid (Calls Tryf.prog 12 #[.agg #[.int .u64 n, .int .u64 wi, .int .i64 a, .int .u64 v, .string s, .int .i64 bA, .int .i64 bE]] (w.alloc (.cells #[.int .u64 n, .int .u64 wi, .int .i64 a, .int .u64 v, .string s, .int .i64 bA, .int .i64 bE] 35)) fun e w' => ∃ q x ev, e = .returned (.tuple #[.agg #[.float .f64 q, .float .f64 x], ev]) ∧ Kp [] (w.alloc (.cells #[.int .u64 n, .int .u64 wi, .int .i64 a, .int .u64 v, .string s, .int .i64 bA, .int .i64 bE] 35)) w' ∧ P q x ∧ ((o = none ∧ ∃ y, ev = .iface 56 y) ∨ (o = some (q, x) ∧ ev = .nilIface))) := HCC
  clear HCC
  go_enter Tryf.func7, Tryf.ntmps7
  go_wp2_with fail
  refine (Calls.mono HC.out ?_)
  rintro e w1 ⟨q, x, ev, rfl, k1, hp, hh⟩
  have HH : Hid _ := hh
  have HP : Hid (P q x) := hp
  have HK : Hid (Kp [] w w1) := ((Kp.refl _ _).alloc _).trans k1
  clear hh hp k1 HC
  go_wp2_with fail
  go_quiet (fail)
  go_wp2_with fail
  go_ret3
  exact ⟨q, x, ev, rfl, (HK.out.alloc _).drewN _, HP.out, HH.out⟩

/-- a length-delimited field is read as its bytes say -/
theorem read_yes (F : Interp) (n a v : Int) (at_ en : Nat) (s : ByteArray) (w : World) (hF : F.answers w.tape) (hle : at_ ≤ en) (hs : en ≤ s.size) (hsz : s.size ≤ 1048576) :
    Calls Tryf.prog 7 #[fld n 2 a v s at_ en] w fun e w' => ∃ q x ev, e = .returned (.tuple #[.float .f64 q, .float .f64 x, ev]) ∧ Kp [] w w' ∧ True ∧ ((rd (rs s at_ en) 0 0 = none ∧ ∃ y, ev = .iface 56 y) ∨ (rd (rs s at_ en) 0 0 = some (q, x) ∧ ev = .nilIface)) := by
  refine c7of _ n 2 a v at_ en s w _ (fun _ _ => True) rfl (fun u hu => ?_)
  have gF : F.answers u.tape := by subst hu; exact hF
  refine c12of n 2 a v at_ en s u _ (fun _ _ => True) (fun u2 qb hu2 hqb => ?_)
  obtain ⟨hq0, _, _, ht0⟩ := start12 u n 2 a v s at_ en
  subst hu2 hqb
  refine (c14 F n a v at_ en s _ 0 0 _ (by rw [ht0]; exact gF) hq0 hle hs hsz).mono ?_
  rintro e w' ⟨q, x, ev, he, hk, hq, hh⟩
  exact ⟨q, x, ev, he, hk, hq, trivial, hh⟩

/-- any other is refused, and nothing is read -/
theorem read_no (F : Interp) (n wi a v bA bE : Int) (s : ByteArray) (w : World) (hF : F.answers w.tape) (hw : (wi != 2) = true) :
    Calls Tryf.prog 7 #[fld n wi a v s bA bE] w fun e w' => ∃ q x ev, e = .returned (.tuple #[.float .f64 q, .float .f64 x, ev]) ∧ Kp [] w w' ∧ (q = 0 ∧ x = 0) ∧ ((Option.none (α := Nat × Nat) = none ∧ ∃ y, ev = .iface 56 y) ∨ (Option.none = some (q, x) ∧ ev = .nilIface)) := by
  refine c7of _ n wi a v bA bE s w _ (fun q x => q = 0 ∧ x = 0) rfl (fun u hu => ?_)
  have gF : F.answers u.tape := by subst hu; exact hF
  refine c12of n wi a v bA bE s u _ (fun q x => q = 0 ∧ x = 0) (fun u2 qb hu2 hqb => ?_)
  obtain ⟨hq0, _, _, ht0⟩ := start12 u n wi a v s bA bE
  subst hu2 hqb
  refine (c14no F n wi a v bA bE s _ 0 0 _ (by rw [ht0]; exact gF) hq0 hw).mono ?_
  rintro e w' ⟨⟨q, x, ev, he, hk, hq, hh⟩, h2⟩
  have e0 : q = 0 := by have := hq.c0.symm.trans h2.c0; simpa using this
  have e1 : x = 0 := by have := hq.c1.symm.trans h2.c1; simpa using this
  exact ⟨q, x, ev, he, hk, hq, ⟨e0, e1⟩, hh⟩

end Go.Proofs.Qxb6612892aFmt
