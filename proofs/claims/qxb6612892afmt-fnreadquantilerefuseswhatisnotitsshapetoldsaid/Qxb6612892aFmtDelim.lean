/-
  THE CONTRACT of (*protoMessage).delimited.
-/
import Derived.Test.Qxb6612892aFmtFixed
namespace Go.Proofs.Qxb6612892aFmt
open Go.RowKit
open Go.Extern.Stop Go.Stop Go.Extern
set_option linter.unusedVariables false
attribute [local go_sem] Tryf.call22 Tryf.guard Tryf.fmt4 Tryf.fmt4r Tryf.op3_100 Tryf.op22_100

/-- how a call of delimited ends -/
def DOut (mb : Nat) (s : ByteArray) (en : Nat) (w : World) (o : Option (List UInt8)) (e : Ending) (w' : World) : Prop :=
  match o with
  | none => (∃ s' p q x, e = .returned (.tuple #[.agg #[.string s', .int .i64 p, .int .i64 q], .iface 56 x])) ∧ Kp [mb] w w'
  | some r => (∃ s' p q, e = .returned (.tuple #[.agg #[.string s', .int .i64 p, .int .i64 q], .nilIface])) ∧ Kp [mb] w w' ∧ Msg w' mb s (en - r.length) en

set_option maxRecDepth 100000 in
set_option maxHeartbeats 1000000 in
theorem c25a (F : Interp) (mb : Nat) (s : ByteArray) (at_ en : Nat) (w : World) (hF : F.answers w.tape) (hm : Msg w mb s at_ en) (hle : at_ ≤ en) (hs : en ≤ s.size) (hsz : s.size ≤ 1048576)
    (ho : vint 10 0 0 (rs s at_ en) = none) :
    Calls Tryf.prog 25 #[.pointer (some ⟨mb, 0, none⟩)] w fun e w' => DOut mb s en w none e w' := by
  have hmb := lt_of_cell hm.c0
  have hm1 : Msg (w.alloc (.cells #[.string ⟨#[]⟩, .int .i64 0, .int .i64 0] 33)) mb s at_ en := hm.kept ((Kp.refl [] w).alloc _) (by simp)
  have HO : Hid (vint 10 0 0 (rs s at_ en) = none) := ho
  clear ho
  obtain ⟨h0, h1, h2, hf⟩ := hm
  go_enter Tryf.func25, Tryf.ntmps25
  go_wp2_with fail
  refine (c23 mb s at_ en _ _ hm1 hle hs hsz HO.out).mono ?_
  rintro e w1 ⟨⟨x, rfl⟩, hk⟩
  have hc := fun o => hk.cell (b := w.heap.size) (o := o) (by simp) (by simp)
  have hfr := fun o => hk.frozen (b := w.heap.size) (o := o) (by simp) (by simp)
  go_wp2_with fail
  exact bodyPost_ret (v := .tuple #[.agg #[.string ⟨#[]⟩, .int .i64 0, .int .i64 0], .iface 56 x]) (by simp [results, Tryf.results25, go_sem, hc]) rfl
    ⟨⟨_, _, _, x, rfl⟩, ((((((Kp.refl _ _).alloc _).trans hk).setCell (Or.inr (by simp)) _).setCell (Or.inr (by simp)) _).setCell (Or.inr (by simp)) _).any⟩

/-- behind the call of varint: what is known of the world, under new names -/
theorem after (F : Interp) {mb : Nat} {s : ByteArray} {p en : Nat} {w w1 : World} (hF : F.answers w.tape) (hmb : mb < w.heap.size)
    (hk : Kp [mb] (w.alloc (.cells #[.string ⟨#[]⟩, .int .i64 0, .int .i64 0] 33)) w1) (hm : Msg w1 mb s p en) (n : Nat) :
    Msg (w1.drewN n) mb s p en ∧ F.answers (w1.drewN n).tape ∧ Kp [mb] w (w1.drewN n) ∧ w.heap.size < (w1.drewN n).heap.size ∧
      (w1.drewN n).cell? ⟨w.heap.size, 0, none⟩ = some (.string ⟨#[]⟩) ∧ (w1.drewN n).cell? ⟨w.heap.size, 1, none⟩ = some (.int .i64 0) ∧ (w1.drewN n).cell? ⟨w.heap.size, 2, none⟩ = some (.int .i64 0) ∧
      (w1.drewN n).frozen? ⟨w.heap.size, 0, none⟩ = false ∧ (w1.drewN n).frozen? ⟨w.heap.size, 1, none⟩ = false ∧ (w1.drewN n).frozen? ⟨w.heap.size, 2, none⟩ = false := by
  have hc := fun o => (hk.drewN n).cell (b := w.heap.size) (o := o) (by simp) (by simp; omega)
  have hfr := fun o => (hk.drewN n).frozen (b := w.heap.size) (o := o) (by simp) (by simp; omega)
  refine ⟨hm.drewN n, ?_, (((Kp.refl _ _).alloc _).trans hk).drewN n, ?_, ?_, ?_, ?_, ?_, ?_, ?_⟩
  · rw [(hk.drewN n).tape]; exact hF
  · have := (hk.drewN n).size; simp at this; show w.heap.size < w1.heap.size; omega
  all_goals first | (rw [hc]; simp) | (rw [hfr]; simp)

set_option maxRecDepth 100000 in
set_option maxHeartbeats 1000000 in
theorem c25b (F : Interp) (mb : Nat) (s : ByteArray) (at_ en : Nat) (w : World) (n : Int) (r : List UInt8) (hF : F.answers w.tape) (hm : Msg w mb s at_ en) (hle : at_ ≤ en) (hs : en ≤ s.size) (hsz : s.size ≤ 1048576)
    (ho : vint 10 0 0 (rs s at_ en) = some (n, r)) (hn : (r.length : Int) < n) (hr : r.length ≤ en) :
    Calls Tryf.prog 25 #[.pointer (some ⟨mb, 0, none⟩)] w fun e w' => DOut mb s en w none e w' := by
  have hmb := lt_of_cell hm.c0
  have hm1 : Msg (w.alloc (.cells #[.string ⟨#[]⟩, .int .i64 0, .int .i64 0] 33)) mb s at_ en := hm.kept ((Kp.refl [] w).alloc _) (by simp)
  have HO : Hid (vint 10 0 0 (rs s at_ en) = some (n, r)) := ho
  clear ho
  obtain ⟨h0, h1, h2, hf⟩ := hm
  go_enter Tryf.func25, Tryf.ntmps25
  go_wp2_with fail
  refine (c23 mb s at_ en _ _ hm1 hle hs hsz HO.out).mono ?_
  rintro e w1 ⟨rfl, hk, hm2⟩
  generalize hp : en - r.length = p at hm2
  have hlt : (en : Int) - (p : Int) < n := by omega
  have hw1 : IntKind.i64.wrap ((en : Int) - (p : Int)) = (en : Int) - (p : Int) := IntWalk.i64_in _ (by omega)
  have hw2 : IntKind.u64.wrap ((en : Int) - (p : Int)) = (en : Int) - (p : Int) := IntWalk.u64_in _ (by omega)
  have hpn : (p : Int) ≤ (en : Int) := by omega
  have HA := fun n => after F hF hmb hk hm2 n
  have HAA : Hid (∀ n, Msg (w1.drewN n) mb s p en ∧ F.answers (w1.drewN n).tape ∧ Kp [mb] w (w1.drewN n) ∧ w.heap.size < (w1.drewN n).heap.size ∧ (w1.drewN n).cell? ⟨w.heap.size, 0, none⟩ = some (.string ⟨#[]⟩) ∧ (w1.drewN n).cell? ⟨w.heap.size, 1, none⟩ = some (.int .i64 0) ∧ (w1.drewN n).cell? ⟨w.heap.size, 2, none⟩ = some (.int .i64 0) ∧ (w1.drewN n).frozen? ⟨w.heap.size, 0, none⟩ = false ∧ (w1.drewN n).frozen? ⟨w.heap.size, 1, none⟩ = false ∧ (w1.drewN n).frozen? ⟨w.heap.size, 2, none⟩ = false) := HA
  obtain ⟨g0, g1, g2, gf⟩ := hm2
  clear hp hk hF h0 h1 h2 hf hm1 HO HA
  go_wp2_with fail
  go_quiet (fail)
  go_wp2_with fail
  clear g0 g1 g2 gf
  obtain ⟨⟨g0, g1, g2, gf⟩, gF, gk, gz, r0, r1, r2, f0, f1, f2⟩ := HAA.out nq
  clear HAA
  generalize w1.drewN nq = w2 at g0 g1 g2 gf gF gk gz r0 r1 r2 f0 f1 f2 ⊢
  have hF' := answers_open gF
  have gl := lt_of_cell g0
  go_region
  go_wp2
  exact bodyPost_ret (v := .tuple #[.agg #[.string ⟨#[]⟩, .int .i64 0, .int .i64 0], .iface 56 (.pointer (some ⟨w2.heap.size + 1, 0, none⟩))]) (by simp only [results, Tryf.results25]; go_simp) rfl
    ⟨⟨_, _, _, _, rfl⟩, by repeat (first | exact gk | apply Kp.alloc | apply Kp.drew | refine Kp.setCell ?_ (Or.inr (Nat.le_refl _)) _)⟩

set_option maxRecDepth 100000 in
set_option maxHeartbeats 1000000 in
theorem c25c (F : Interp) (mb : Nat) (s : ByteArray) (at_ en : Nat) (w : World) (n : Int) (r : List UInt8) (hF : F.answers w.tape) (hm : Msg w mb s at_ en) (hle : at_ ≤ en) (hs : en ≤ s.size) (hsz : s.size ≤ 1048576)
    (ho : vint 10 0 0 (rs s at_ en) = some (n, r)) (hn : n ≤ (r.length : Int)) (hn0 : 0 ≤ n) (hr : r.length ≤ en) :
    Calls Tryf.prog 25 #[.pointer (some ⟨mb, 0, none⟩)] w fun e w' => DOut mb s en w (some (r.drop n.toNat)) e w' := by
  have hmb := lt_of_cell hm.c0
  have hm1 : Msg (w.alloc (.cells #[.string ⟨#[]⟩, .int .i64 0, .int .i64 0] 33)) mb s at_ en := hm.kept ((Kp.refl [] w).alloc _) (by simp)
  have HO : Hid (vint 10 0 0 (rs s at_ en) = some (n, r)) := ho
  clear ho
  obtain ⟨h0, h1, h2, hf⟩ := hm
  go_enter Tryf.func25, Tryf.ntmps25
  go_wp2_with fail
  refine (c23 mb s at_ en _ _ hm1 hle hs hsz HO.out).mono ?_
  rintro e w1 ⟨rfl, hk, hm2⟩
  generalize hp : en - r.length = p at hm2
  have HP : Hid (en - r.length = p) := hp
  have hlt : ¬ (en : Int) - (p : Int) < n := by omega
  have hw1 : IntKind.i64.wrap ((en : Int) - (p : Int)) = (en : Int) - (p : Int) := IntWalk.i64_in _ (by omega)
  have hw2 : IntKind.u64.wrap ((en : Int) - (p : Int)) = (en : Int) - (p : Int) := IntWalk.u64_in _ (by omega)
  have hw3 : IntKind.i64.wrap n = n := IntWalk.i64_in _ (by omega)
  have hw4 : IntKind.i64.wrap ((p : Int) + n) = (p : Int) + n := IntWalk.i64_in _ (by omega)
  have hpn : (p : Int) ≤ (en : Int) := by omega
  have HA := fun n => after F hF hmb hk hm2 n
  have HAA : Hid (∀ n, Msg (w1.drewN n) mb s p en ∧ F.answers (w1.drewN n).tape ∧ Kp [mb] w (w1.drewN n) ∧ w.heap.size < (w1.drewN n).heap.size ∧ (w1.drewN n).cell? ⟨w.heap.size, 0, none⟩ = some (.string ⟨#[]⟩) ∧ (w1.drewN n).cell? ⟨w.heap.size, 1, none⟩ = some (.int .i64 0) ∧ (w1.drewN n).cell? ⟨w.heap.size, 2, none⟩ = some (.int .i64 0) ∧ (w1.drewN n).frozen? ⟨w.heap.size, 0, none⟩ = false ∧ (w1.drewN n).frozen? ⟨w.heap.size, 1, none⟩ = false ∧ (w1.drewN n).frozen? ⟨w.heap.size, 2, none⟩ = false) := HA
  obtain ⟨g0, g1, g2, gf⟩ := hm2
  clear hp hk hF h0 h1 h2 hf hm1 HO HA
  go_wp2_with fail
  go_quiet (fail)
  go_wp2_with fail
  clear g0 g1 g2 gf
  obtain ⟨⟨g0, g1, g2, gf⟩, gF, gk, gz, r0, r1, r2, f0, f1, f2⟩ := HAA.out nq
  clear HAA
  generalize w1.drewN nq = w2 at g0 g1 g2 gf gF gk gz r0 r1 r2 f0 f1 f2 ⊢
  have gl := lt_of_cell g0
  go_region
  go_wp2
  have hfin : en - (r.drop n.toNat).length = p + n.toNat := by
    have := HP.out
    rw [List.length_drop]; omega
  have hcast : (((p + n.toNat : Nat)) : Int) = (p : Int) + n := by omega
  have hm3 : Msg (w2.setCell ⟨mb, 1, none⟩ (.int .i64 ((p : Int) + n))) mb s (p + n.toNat) en := by
    have := (Msg.mk g0 g1 g2 gf).set (p + n.toNat)
    rw [hcast] at this
    exact this
  refine bodyPost_ret (v := .tuple #[.agg #[.string s, .int .i64 p, .int .i64 ((p : Int) + n)], .nilIface]) (by simp only [results, Tryf.results25]; go_simp) rfl
    ⟨⟨_, _, _, rfl⟩, ?_, ?_⟩
  · repeat (first | exact gk | apply Kp.alloc | apply Kp.drew | refine Kp.setCell ?_ (Or.inr (Nat.le_refl _)) _ | refine Kp.setCell ?_ (Or.inl (by simp)) _)
  · rw [hfin]
    refine hm3.kept (S := [w.heap.size]) ?_ (by simp; omega)
    repeat (first | exact Kp.refl _ _ | apply Kp.alloc | apply Kp.drew | refine Kp.setCell ?_ (Or.inl (by simp)) _)

theorem bits_or_range (a b : Int) : 0 ≤ bits BinOp.or IntKind.u64 a b ∧ bits BinOp.or IntKind.u64 a b ≤ 18446744073709551615 := by
  unfold bits
  constructor
  all_goals
    simp only []
    rw [IntKind.wrap_u64]
    omega

theorem vint_range : ∀ (f k : Nat) (v : Int) (l : List UInt8) (x : Int) (r : List UInt8), vint f k v l = some (x, r) → 0 ≤ x ∧ x ≤ 18446744073709551615
  | 0, _, _, _, _, _, h => by simp [vint] at h
  | _ + 1, _, _, [], _, _, h => by simp [vint] at h
  | f + 1, k, v, c :: t, x, r, h => by
    simp only [vint] at h
    split at h
    · split at h
      · cases h
      · simp only [Option.some.injEq, Prod.mk.injEq] at h
        obtain ⟨rfl, _⟩ := h
        exact bits_or_range _ _
    · exact vint_range f (k + 1) _ t x r h

/-- the three ways together -/
theorem c25 (F : Interp) (mb : Nat) (s : ByteArray) (at_ en : Nat) (w : World) (hF : F.answers w.tape) (hm : Msg w mb s at_ en) (hle : at_ ≤ en) (hs : en ≤ s.size) (hsz : s.size ≤ 1048576) :
    Calls Tryf.prog 25 #[.pointer (some ⟨mb, 0, none⟩)] w fun e w' => DOut mb s en w (delim (rs s at_ en)) e w' := by
  unfold delim
  cases ho : vint 10 0 0 (rs s at_ en) with
  | none => exact c25a F mb s at_ en w hF hm hle hs hsz ho
  | some x =>
    obtain ⟨n, r⟩ := x
    have hl := vint_len _ _ _ _ _ _ ho
    rw [rs_len s _ _ hs] at hl
    have hrg := vint_range _ _ _ _ _ _ ho
    simp only
    by_cases hn : (r.length : Int) < n
    · rw [if_pos hn]
      exact c25b F mb s at_ en w n r hF hm hle hs hsz ho hn (by omega)
    · rw [if_neg hn]
      exact c25c F mb s at_ en w n r hF hm hle hs hsz ho (by omega) hrg.1 (by omega)

end Go.Proofs.Qxb6612892aFmt
