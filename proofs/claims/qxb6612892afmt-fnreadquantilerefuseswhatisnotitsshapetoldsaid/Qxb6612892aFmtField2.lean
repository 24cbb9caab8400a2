/-
  THE CONTRACT of (*protoMessage).field, behind the tag.
-/
import Derived.Test.Qxb6612892aFmtField
namespace Go.Proofs.Qxb6612892aFmt
open Go.RowKit
open Go.Extern.Stop Go.Stop Go.Extern
set_option linter.unusedVariables false
attribute [local go_sem] Tryf.call22 Tryf.guard Tryf.fmt1 Tryf.fmt1r Tryf.fmt2 Tryf.fmt2r Tryf.op31_100 Tryf.op22_100

/-- the world behind the tag -/
def W22 (w w1 : World) (n wi : Int) : World := (w1.setCell ⟨w.heap.size + 1, 0, none⟩ (.int .u64 n)).setCell ⟨w.heap.size + 1, 1, none⟩ (.int .u64 wi)

/-- what is known behind the tag's varint -/
structure At21 (F : Interp) (mb : Nat) (s : ByteArray) (p en : Nat) (at_ : Int) (w w1 : World) (n wi : Int) : Prop where
  m : Msg w1 mb s p en
  r : Cells7 w1 w.heap.size 0 0 0 0 ⟨#[]⟩ 0 0
  b : Cells7 w1 (w.heap.size + 1) n wi at_ 0 ⟨#[]⟩ 0 0
  k : Kp [mb] w w1
  t : F.answers w1.tape
  l : mb < w.heap.size

theorem at21 (F : Interp) {mb : Nat} {s : ByteArray} {at_ p en : Nat} {w w1 : World} (hF : F.answers w.tape) (hm0 : Msg w mb s at_ en) (hk : Kp [mb] (W21 w at_) w1) (hm : Msg w1 mb s p en) :
    At21 F mb s p en at_ w w1 0 0 := by
  have hmb := lt_of_cell hm0.c0
  obtain ⟨_, hR, hB, hk0, ht0⟩ := start21 hm0
  exact ⟨hm, hR.kept hk (by simp; omega), hB.kept hk (by simp; omega), hk0.trans hk, by rw [hk.tape, ht0]; exact hF, hmb⟩

theorem At21.tag {F : Interp} {mb : Nat} {s : ByteArray} {p en : Nat} {at_ : Int} {w w1 : World} (h : At21 F mb s p en at_ w w1 0 0) (n wi : Int) : At21 F mb s p en at_ w (W22 w w1 n wi) n wi := by
  have hl := h.l
  have kB : Kp [w.heap.size + 1] w1 (W22 w w1 n wi) := ((Kp.refl _ _).setCell (Or.inl (by simp)) _).setCell (Or.inl (by simp)) _
  exact ⟨h.m.kept kB (by simp; omega), h.r.kept kB (by simp), h.b.set01 n wi, (h.k.setCell (Or.inr (by simp)) _).setCell (Or.inr (by simp)) _, by rw [kB.tape]; exact h.t, hl⟩

theorem At21.next {F : Interp} {mb : Nat} {s : ByteArray} {p en : Nat} {at_ : Int} {w w1 w2 : World} {n wi : Int} (h : At21 F mb s p en at_ w w1 n wi) (k : Kp [mb] w1 w2) :
    Cells7 w2 w.heap.size 0 0 0 0 ⟨#[]⟩ 0 0 ∧ Cells7 w2 (w.heap.size + 1) n wi at_ 0 ⟨#[]⟩ 0 0 ∧ Kp [mb] w w2 := by
  have hl := h.l
  exact ⟨h.r.kept k (by simp; omega), h.b.kept k (by simp; omega), h.k.trans k⟩

theorem res21 {u : World} {R : Nat} {n wi a v : Int} {s : ByteArray} {p q : Int} (h : Cells7 u R n wi a v s p q) (tmps : Array Value) (ev : Value) (h2 : tmps[2]?.getD undef = .pointer (some ⟨R, 0, none⟩)) (h3 : tmps[3]?.getD undef = ev) :
    (results Tryf.f21 tmps).run Tryf.prog u = .ok (.tuple #[fld n wi a v s p q, ev]) u := by
  obtain ⟨q0, q1, q2, q3, q4, q5, q6, qf⟩ := h
  unfold fld
  simp [results, Tryf.results21, go_sem, h2, h3, q0, q1, q2, q3, q4, q5, q6]

/-- the closing: the field's seven cells copied into the result's block, then new blocks and draws -/
theorem fin21 {mb : Nat} {s : ByteArray} {en : Nat} {w w2 u : World} {o : Option (Int × Int × Int × List UInt8)} {n wi a v : Int} {s' : ByteArray} {p q : Int} {n0 wi0 a0 v0 : Int} {s0 : ByteArray} {p0 q0 : Int}
    (hr : Cells7 w2 w.heap.size n0 wi0 a0 v0 s0 p0 q0) (hu : Kp [] (put7 w2 w.heap.size n wi a v s' p q) u) (tmps : Array Value) (ev : Value) (h2 : tmps[2]?.getD undef = .pointer (some ⟨w.heap.size, 0, none⟩)) (h3 : tmps[3]?.getD undef = ev)
    (hg : GOut mb s en w o (.returned (.tuple #[fld n wi a v s' p q, ev])) u) :
    bodyPost Tryf.prog Tryf.f21 (fun e w' => GOut mb s en w o e w') Exit.ret { tmps := tmps, defers := [] } u :=
  bodyPost_ret (res21 ((cells_put7 hr n wi a v s' p q).kept hu (by simp)) tmps ev h2 h3) rfl hg

set_option maxRecDepth 100000 in
set_option maxHeartbeats 1000000 in
theorem c21b (F : Interp) (mb : Nat) (s : ByteArray) (at_ en : Nat) (w : World) (tag : Int) (r : List UInt8) (hF : F.answers w.tape) (hm : Msg w mb s at_ en) (hle : at_ ≤ en) (hs : en ≤ s.size) (hsz : s.size ≤ 1048576)
    (ho : vint 10 0 0 (rs s at_ en) = some (tag, r)) (hr : r = rs s (en - r.length) en) (hrl : r.length ≤ en) (ht0 : 0 ≤ tag) (ht1 : tag ≤ 18446744073709551615)
    (hz : tag / 8 = 0) :
    Calls Tryf.prog 21 #[.pointer (some ⟨mb, 0, none⟩)] w fun e w' => GOut mb s en w none e w' := by
  have hand : ∃ wi, bits BinOp.and IntKind.u64 tag 7 = wi := ⟨_, rfl⟩
  obtain ⟨wi, hand⟩ := hand
  have HO : Hid (vint 10 0 0 (rs s at_ en) = some (tag, r)) := ho
  have HR : Hid (r = rs s (en - r.length) en) := hr
  clear ho hr
  obtain ⟨hm1, _, _, _, _⟩ := start21 hm
  have HM : Hid (Msg w mb s at_ en) := hm
  have hmb := lt_of_cell hm.c0
  obtain ⟨h0, h1, h2, hf⟩ := hm
  go_enter Tryf.func21, Tryf.ntmps21
  go_wp2_with fail
  refine (c23 mb s at_ en _ _ (by exact hm1) hle hs hsz HO.out).mono ?_
  rintro e w1 ⟨rfl, hk, hm2⟩
  have A1 := at21 F hF HM.out hk hm2
  obtain ⟨b0, b1, b2, b3, b4, b5, b6, bf⟩ := A1.b
  clear hk hm2 hm1 HM HO h0 h1 h2 hf hF
  go_wp2_with fail
  have A2 := A1.tag 0 wi
  rw [show (w1.setCell ⟨w.heap.size + 1, 0, none⟩ (.int .u64 0)).setCell ⟨w.heap.size + 1, 1, none⟩ (.int .u64 wi) = W22 w w1 0 wi from rfl]
  generalize W22 w w1 0 wi = w2 at A2 ⊢
  clear b0 b1 b2 b3 b4 b5 b6 bf A1
  obtain ⟨b0, b1, b2, b3, b4, b5, b6, bf⟩ := A2.b
  obtain ⟨r0, r1, r2, r3, r4, r5, r6, rf⟩ := A2.r
  have gk := A2.k
  have gt := answers_open A2.t
  have gl := A2.b.lt
  have gl2 := A2.r.lt
  have gl3 : w.heap.size < w2.heap.size + 1 := by omega
  have gl4 : w.heap.size + 1 < w2.heap.size + 1 := by omega
  go_region
  go_wp2
  refine fin21 (n := 0) (wi := wi) (a := at_) (v := 0) (s' := ⟨#[]⟩) (p := 0) (q := 0) A2.r ((((Kp.refl [] _).alloc _).alloc _).drew.drew) _ _ rfl rfl (GOut.no rfl _ _ _ _ _ _ _ _ ?_)
  exact (((kp_put7 gk (Or.inr (Nat.le_refl _)) 0 wi at_ 0 ⟨#[]⟩ 0 0).alloc _).alloc _).drew.drew

set_option maxRecDepth 100000 in
set_option maxHeartbeats 1000000 in
theorem c21w1 (F : Interp) (mb : Nat) (s : ByteArray) (at_ en : Nat) (w : World) (tag : Int) (r : List UInt8) (hF : F.answers w.tape) (hm : Msg w mb s at_ en) (hle : at_ ≤ en) (hs : en ≤ s.size) (hsz : s.size ≤ 1048576)
    (ho : vint 10 0 0 (rs s at_ en) = some (tag, r)) (hr : r = rs s (en - r.length) en) (hrl : r.length ≤ en) (ht0 : 0 ≤ tag) (ht1 : tag ≤ 18446744073709551615)
    (hz : (tag / 8 == 0) = false) (hand : bits BinOp.and IntKind.u64 tag 7 = 1) (o : Option (Int × Int × Int × List UInt8)) (hoo : (match fixd 8 r with | none => none | some (v, r') => some (tag / 8, 1, v, r')) = o) :
    Calls Tryf.prog 21 #[.pointer (some ⟨mb, 0, none⟩)] w fun e w' => GOut mb s en w o e w' := by
  have HOO : Hid ((match fixd 8 r with | none => none | some (v, r') => some (tag / 8, 1, v, r')) = o) := hoo
  clear hoo
  have HO : Hid (vint 10 0 0 (rs s at_ en) = some (tag, r)) := ho
  have HR : Hid (r = rs s (en - r.length) en) := hr
  clear ho hr
  obtain ⟨hm1, _, _, _, _⟩ := start21 hm
  have HM : Hid (Msg w mb s at_ en) := hm
  have hmb := lt_of_cell hm.c0
  obtain ⟨h0, h1, h2, hf⟩ := hm
  go_enter Tryf.func21, Tryf.ntmps21
  go_wp2_with fail
  refine (c23 mb s at_ en _ _ (by exact hm1) hle hs hsz HO.out).mono ?_
  rintro e w1 ⟨rfl, hk, hm2⟩
  have A1 := at21 F hF HM.out hk hm2
  obtain ⟨b0, b1, b2, b3, b4, b5, b6, bf⟩ := A1.b
  clear hk hm2 hm1 HM HO h0 h1 h2 hf hF
  generalize hnum : tag / 8 = num at hz
  have HNUM : Hid (tag / 8 = num) := hnum
  go_wp2_with fail
  have A2 := A1.tag num 1
  clear hnum
  have hpp : en - r.length ≤ en := Nat.sub_le _ _
  refine (c24 F mb s (en - r.length) en 8 _ (by exact A2.t) (by exact A2.m) hpp hs hsz (by omega)).mono ?_
  intro e w2 hv
  obtain ⟨v', ev, rfl, hk, hw⟩ := hv.uni
  obtain ⟨hR, hB, gk⟩ := A2.next hk
  clear b0 b1 b2 b3 b4 b5 b6 bf A1
  obtain ⟨b0, b1, b2, b3, b4, b5, b6, bf⟩ := hB
  have hR2 := hR
  obtain ⟨r0, r1, r2, r3, r4, r5, r6, rf⟩ := hR
  have HW : Hid _ := hw
  clear hw hv hk A2
  go_wp2_with fail
  have kB : Kp [w.heap.size + 1] w2 (w2.setCell ⟨w.heap.size + 1, 3, none⟩ (.int .u64 v')) := (Kp.refl _ _).setCell (Or.inl (by simp)) _
  have kF : Kp [mb] w (put7 (w2.setCell ⟨w.heap.size + 1, 3, none⟩ (.int .u64 v')) w.heap.size num 1 at_ v' ⟨#[]⟩ 0 0) :=
    kp_put7 (gk.setCell (Or.inr (by simp)) _) (Or.inr (Nat.le_refl _)) _ _ _ _ _ _ _
  refine fin21 (n := num) (wi := 1) (a := at_) (v := v') (s' := ⟨#[]⟩) (p := 0) (q := 0) (hR2.kept kB (by simp)) (Kp.refl [] _) _ ev rfl rfl ?_
  rcases HW.out with ⟨hn, x, rfl⟩ | ⟨r', hn, rfl, m⟩
  · refine GOut.no ?_ _ _ _ _ _ _ _ x kF
    have := HOO.out
    rw [HR.out, hn] at this
    exact this.symm
  · refine GOut.yes (r := r') ?_ _ _ _ _ kF (m.kept (S := [w.heap.size + 1, w.heap.size]) (kp_put7 ((Kp.refl _ _).setCell (Or.inl (by simp)) _) (Or.inl (by simp)) _ _ _ _ _ _ _) (by simp; omega))
    have := HOO.out
    rw [HR.out, hn] at this
    rw [← this, HNUM.out]

set_option maxRecDepth 100000 in
set_option maxHeartbeats 1000000 in
theorem c21w5 (F : Interp) (mb : Nat) (s : ByteArray) (at_ en : Nat) (w : World) (tag : Int) (r : List UInt8) (hF : F.answers w.tape) (hm : Msg w mb s at_ en) (hle : at_ ≤ en) (hs : en ≤ s.size) (hsz : s.size ≤ 1048576)
    (ho : vint 10 0 0 (rs s at_ en) = some (tag, r)) (hr : r = rs s (en - r.length) en) (hrl : r.length ≤ en) (ht0 : 0 ≤ tag) (ht1 : tag ≤ 18446744073709551615)
    (hz : (tag / 8 == 0) = false) (hand : bits BinOp.and IntKind.u64 tag 7 = 5) (o : Option (Int × Int × Int × List UInt8)) (hoo : (match fixd 4 r with | none => none | some (v, r') => some (tag / 8, 5, v, r')) = o) :
    Calls Tryf.prog 21 #[.pointer (some ⟨mb, 0, none⟩)] w fun e w' => GOut mb s en w o e w' := by
  have HOO : Hid ((match fixd 4 r with | none => none | some (v, r') => some (tag / 8, 5, v, r')) = o) := hoo
  clear hoo
  have HO : Hid (vint 10 0 0 (rs s at_ en) = some (tag, r)) := ho
  have HR : Hid (r = rs s (en - r.length) en) := hr
  clear ho hr
  obtain ⟨hm1, _, _, _, _⟩ := start21 hm
  have HM : Hid (Msg w mb s at_ en) := hm
  have hmb := lt_of_cell hm.c0
  obtain ⟨h0, h1, h2, hf⟩ := hm
  go_enter Tryf.func21, Tryf.ntmps21
  go_wp2_with fail
  refine (c23 mb s at_ en _ _ (by exact hm1) hle hs hsz HO.out).mono ?_
  rintro e w1 ⟨rfl, hk, hm2⟩
  have A1 := at21 F hF HM.out hk hm2
  obtain ⟨b0, b1, b2, b3, b4, b5, b6, bf⟩ := A1.b
  clear hk hm2 hm1 HM HO h0 h1 h2 hf hF
  generalize hnum : tag / 8 = num at hz
  have HNUM : Hid (tag / 8 = num) := hnum
  go_wp2_with fail
  have A2 := A1.tag num 5
  clear hnum
  have hpp : en - r.length ≤ en := Nat.sub_le _ _
  refine (c24 F mb s (en - r.length) en 4 _ (by exact A2.t) (by exact A2.m) hpp hs hsz (by omega)).mono ?_
  intro e w2 hv
  obtain ⟨v', ev, rfl, hk, hw⟩ := hv.uni
  obtain ⟨hR, hB, gk⟩ := A2.next hk
  clear b0 b1 b2 b3 b4 b5 b6 bf A1
  obtain ⟨b0, b1, b2, b3, b4, b5, b6, bf⟩ := hB
  have hR2 := hR
  obtain ⟨r0, r1, r2, r3, r4, r5, r6, rf⟩ := hR
  have HW : Hid _ := hw
  clear hw hv hk A2
  go_wp2_with fail
  have kB : Kp [w.heap.size + 1] w2 (w2.setCell ⟨w.heap.size + 1, 3, none⟩ (.int .u64 v')) := (Kp.refl _ _).setCell (Or.inl (by simp)) _
  have kF : Kp [mb] w (put7 (w2.setCell ⟨w.heap.size + 1, 3, none⟩ (.int .u64 v')) w.heap.size num 5 at_ v' ⟨#[]⟩ 0 0) :=
    kp_put7 (gk.setCell (Or.inr (by simp)) _) (Or.inr (Nat.le_refl _)) _ _ _ _ _ _ _
  refine fin21 (n := num) (wi := 5) (a := at_) (v := v') (s' := ⟨#[]⟩) (p := 0) (q := 0) (hR2.kept kB (by simp)) (Kp.refl [] _) _ ev rfl rfl ?_
  rcases HW.out with ⟨hn, x, rfl⟩ | ⟨r', hn, rfl, m⟩
  · refine GOut.no ?_ _ _ _ _ _ _ _ x kF
    have := HOO.out
    rw [HR.out, hn] at this
    exact this.symm
  · refine GOut.yes (r := r') ?_ _ _ _ _ kF (m.kept (S := [w.heap.size + 1, w.heap.size]) (kp_put7 ((Kp.refl _ _).setCell (Or.inl (by simp)) _) (Or.inl (by simp)) _ _ _ _ _ _ _) (by simp; omega))
    have := HOO.out
    rw [HR.out, hn] at this
    rw [← this, HNUM.out]

set_option maxRecDepth 100000 in
set_option maxHeartbeats 1000000 in
theorem c21w0 (F : Interp) (mb : Nat) (s : ByteArray) (at_ en : Nat) (w : World) (tag : Int) (r : List UInt8) (hF : F.answers w.tape) (hm : Msg w mb s at_ en) (hle : at_ ≤ en) (hs : en ≤ s.size) (hsz : s.size ≤ 1048576)
    (ho : vint 10 0 0 (rs s at_ en) = some (tag, r)) (hr : r = rs s (en - r.length) en) (hrl : r.length ≤ en) (ht0 : 0 ≤ tag) (ht1 : tag ≤ 18446744073709551615)
    (hz : (tag / 8 == 0) = false) (hand : bits BinOp.and IntKind.u64 tag 7 = 0) (o : Option (Int × Int × Int × List UInt8)) (hoo : (match vint 10 0 0 r with | none => none | some (v, r') => some (tag / 8, 0, v, r')) = o) :
    Calls Tryf.prog 21 #[.pointer (some ⟨mb, 0, none⟩)] w fun e w' => GOut mb s en w o e w' := by
  have HOO : Hid ((match vint 10 0 0 r with | none => none | some (v, r') => some (tag / 8, 0, v, r')) = o) := hoo
  clear hoo
  have HO : Hid (vint 10 0 0 (rs s at_ en) = some (tag, r)) := ho
  have HR : Hid (r = rs s (en - r.length) en) := hr
  clear ho hr
  obtain ⟨hm1, _, _, _, _⟩ := start21 hm
  have HM : Hid (Msg w mb s at_ en) := hm
  have hmb := lt_of_cell hm.c0
  obtain ⟨h0, h1, h2, hf⟩ := hm
  go_enter Tryf.func21, Tryf.ntmps21
  go_wp2_with fail
  refine (c23 mb s at_ en _ _ (by exact hm1) hle hs hsz HO.out).mono ?_
  rintro e w1 ⟨rfl, hk, hm2⟩
  have A1 := at21 F hF HM.out hk hm2
  obtain ⟨b0, b1, b2, b3, b4, b5, b6, bf⟩ := A1.b
  clear hk hm2 hm1 HM HO h0 h1 h2 hf hF
  generalize hnum : tag / 8 = num at hz
  have HNUM : Hid (tag / 8 = num) := hnum
  go_wp2_with fail
  have A2 := A1.tag num 0
  clear hnum
  have hpp : en - r.length ≤ en := Nat.sub_le _ _
  refine (c23 mb s (en - r.length) en _ _ (by exact A2.m) hpp hs hsz rfl).mono ?_
  intro e w2 hv
  obtain ⟨v', ev, rfl, hk, hw⟩ := hv.uni
  obtain ⟨hR, hB, gk⟩ := A2.next hk
  clear b0 b1 b2 b3 b4 b5 b6 bf A1
  obtain ⟨b0, b1, b2, b3, b4, b5, b6, bf⟩ := hB
  have hR2 := hR
  obtain ⟨r0, r1, r2, r3, r4, r5, r6, rf⟩ := hR
  have HW : Hid _ := hw
  clear hw hv hk A2
  go_wp2_with fail
  have kB : Kp [w.heap.size + 1] w2 (w2.setCell ⟨w.heap.size + 1, 3, none⟩ (.int .u64 v')) := (Kp.refl _ _).setCell (Or.inl (by simp)) _
  have kF : Kp [mb] w (put7 (w2.setCell ⟨w.heap.size + 1, 3, none⟩ (.int .u64 v')) w.heap.size num 0 at_ v' ⟨#[]⟩ 0 0) :=
    kp_put7 (gk.setCell (Or.inr (by simp)) _) (Or.inr (Nat.le_refl _)) _ _ _ _ _ _ _
  refine fin21 (n := num) (wi := 0) (a := at_) (v := v') (s' := ⟨#[]⟩) (p := 0) (q := 0) (hR2.kept kB (by simp)) (Kp.refl [] _) _ ev rfl rfl ?_
  rcases HW.out with ⟨hn, x, rfl⟩ | ⟨r', hn, rfl, m⟩
  · refine GOut.no ?_ _ _ _ _ _ _ _ x kF
    have := HOO.out
    rw [HR.out, hn] at this
    exact this.symm
  · refine GOut.yes (r := r') ?_ _ _ _ _ kF (m.kept (S := [w.heap.size + 1, w.heap.size]) (kp_put7 ((Kp.refl _ _).setCell (Or.inl (by simp)) _) (Or.inl (by simp)) _ _ _ _ _ _ _) (by simp; omega))
    have := HOO.out
    rw [HR.out, hn] at this
    rw [← this, HNUM.out]

set_option maxRecDepth 100000 in
set_option maxHeartbeats 1000000 in
theorem c21w2 (F : Interp) (mb : Nat) (s : ByteArray) (at_ en : Nat) (w : World) (tag : Int) (r : List UInt8) (hF : F.answers w.tape) (hm : Msg w mb s at_ en) (hle : at_ ≤ en) (hs : en ≤ s.size) (hsz : s.size ≤ 1048576)
    (ho : vint 10 0 0 (rs s at_ en) = some (tag, r)) (hr : r = rs s (en - r.length) en) (hrl : r.length ≤ en) (ht0 : 0 ≤ tag) (ht1 : tag ≤ 18446744073709551615)
    (hz : (tag / 8 == 0) = false) (hand : bits BinOp.and IntKind.u64 tag 7 = 2) (o : Option (Int × Int × Int × List UInt8)) (hoo : (match delim r with | none => none | some r' => some (tag / 8, 2, 0, r')) = o) :
    Calls Tryf.prog 21 #[.pointer (some ⟨mb, 0, none⟩)] w fun e w' => GOut mb s en w o e w' := by
  have HOO : Hid ((match delim r with | none => none | some r' => some (tag / 8, 2, 0, r')) = o) := hoo
  clear hoo
  have HO : Hid (vint 10 0 0 (rs s at_ en) = some (tag, r)) := ho
  have HR : Hid (r = rs s (en - r.length) en) := hr
  clear ho hr
  obtain ⟨hm1, _, _, _, _⟩ := start21 hm
  have HM : Hid (Msg w mb s at_ en) := hm
  have hmb := lt_of_cell hm.c0
  obtain ⟨h0, h1, h2, hf⟩ := hm
  go_enter Tryf.func21, Tryf.ntmps21
  go_wp2_with fail
  refine (c23 mb s at_ en _ _ (by exact hm1) hle hs hsz HO.out).mono ?_
  rintro e w1 ⟨rfl, hk, hm2⟩
  have A1 := at21 F hF HM.out hk hm2
  obtain ⟨b0, b1, b2, b3, b4, b5, b6, bf⟩ := A1.b
  clear hk hm2 hm1 HM HO h0 h1 h2 hf hF
  generalize hnum : tag / 8 = num at hz
  have HNUM : Hid (tag / 8 = num) := hnum
  go_wp2_with fail
  have A2 := A1.tag num 2
  clear hnum
  have hpp : en - r.length ≤ en := Nat.sub_le _ _
  refine (c25 F mb s (en - r.length) en _ (by exact A2.t) (by exact A2.m) hpp hs hsz).mono ?_
  intro e w2 hv
  obtain ⟨s', p, q, ev, rfl, hk, hw⟩ := hv.uni
  obtain ⟨hR, hB, gk⟩ := A2.next hk
  clear b0 b1 b2 b3 b4 b5 b6 bf A1
  obtain ⟨b0, b1, b2, b3, b4, b5, b6, bf⟩ := hB
  have hR2 := hR
  obtain ⟨r0, r1, r2, r3, r4, r5, r6, rf⟩ := hR
  have HW : Hid _ := hw
  clear hw hv hk A2
  go_wp2_with fail
  have kB : ∀ S, w.heap.size + 1 ∈ S → Kp S w2 (((w2.setCell ⟨w.heap.size + 1, 4, none⟩ (.string s')).setCell ⟨w.heap.size + 1, 5, none⟩ (.int .i64 p)).setCell ⟨w.heap.size + 1, 6, none⟩ (.int .i64 q)) :=
    fun S hS => (((Kp.refl _ _).setCell (Or.inl hS) _).setCell (Or.inl hS) _).setCell (Or.inl hS) _
  have kF : Kp [mb] w (put7 (((w2.setCell ⟨w.heap.size + 1, 4, none⟩ (.string s')).setCell ⟨w.heap.size + 1, 5, none⟩ (.int .i64 p)).setCell ⟨w.heap.size + 1, 6, none⟩ (.int .i64 q)) w.heap.size num 2 at_ 0 s' p q) :=
    kp_put7 (((gk.setCell (Or.inr (by simp)) _).setCell (Or.inr (by simp)) _).setCell (Or.inr (by simp)) _) (Or.inr (Nat.le_refl _)) _ _ _ _ _ _ _
  refine fin21 (n := num) (wi := 2) (a := at_) (v := 0) (s' := s') (p := p) (q := q) (hR2.kept (kB [w.heap.size + 1] (by simp)) (by simp)) (Kp.refl [] _) _ ev rfl rfl ?_
  rcases HW.out with ⟨hn, x, rfl⟩ | ⟨r', hn, rfl, m⟩
  · refine GOut.no ?_ _ _ _ _ _ _ _ x kF
    have := HOO.out
    rw [HR.out, hn] at this
    exact this.symm
  · refine GOut.yes (r := r') ?_ _ _ _ _ kF (m.kept (S := [w.heap.size + 1, w.heap.size]) (kp_put7 (kB _ (by simp)) (Or.inl (by simp)) _ _ _ _ _ _ _) (by simp; omega))
    have := HOO.out
    rw [HR.out, hn] at this
    rw [← this, HNUM.out]

set_option maxRecDepth 100000 in
set_option maxHeartbeats 1000000 in
theorem c21d (F : Interp) (mb : Nat) (s : ByteArray) (at_ en : Nat) (w : World) (tag : Int) (r : List UInt8) (hF : F.answers w.tape) (hm : Msg w mb s at_ en) (hle : at_ ≤ en) (hs : en ≤ s.size) (hsz : s.size ≤ 1048576)
    (ho : vint 10 0 0 (rs s at_ en) = some (tag, r)) (hr : r = rs s (en - r.length) en) (hrl : r.length ≤ en) (ht0 : 0 ≤ tag) (ht1 : tag ≤ 18446744073709551615)
    (hz : (tag / 8 == 0) = false) (wi : Int) (hand : bits BinOp.and IntKind.u64 tag 7 = wi) (q0 : (wi == 0) = false) (q1 : (wi == 1) = false) (q5 : (wi == 5) = false) (q2 : (wi == 2) = false) :
    Calls Tryf.prog 21 #[.pointer (some ⟨mb, 0, none⟩)] w fun e w' => GOut mb s en w none e w' := by
  have HO : Hid (vint 10 0 0 (rs s at_ en) = some (tag, r)) := ho
  have HR : Hid (r = rs s (en - r.length) en) := hr
  clear ho hr
  obtain ⟨hm1, _, _, _, _⟩ := start21 hm
  have HM : Hid (Msg w mb s at_ en) := hm
  have hmb := lt_of_cell hm.c0
  obtain ⟨h0, h1, h2, hf⟩ := hm
  go_enter Tryf.func21, Tryf.ntmps21
  go_wp2_with fail
  refine (c23 mb s at_ en _ _ (by exact hm1) hle hs hsz HO.out).mono ?_
  rintro e w1 ⟨rfl, hk, hm2⟩
  have A1 := at21 F hF HM.out hk hm2
  obtain ⟨b0, b1, b2, b3, b4, b5, b6, bf⟩ := A1.b
  clear hk hm2 hm1 HM HO h0 h1 h2 hf hF
  generalize hnum : tag / 8 = num at hz
  go_wp2_with fail
  clear hnum
  have A2 := A1.tag num wi
  rw [show (w1.setCell ⟨w.heap.size + 1, 0, none⟩ (.int .u64 num)).setCell ⟨w.heap.size + 1, 1, none⟩ (.int .u64 wi) = W22 w w1 num wi from rfl]
  generalize W22 w w1 num wi = w2 at A2 ⊢
  clear b0 b1 b2 b3 b4 b5 b6 bf A1
  obtain ⟨b0, b1, b2, b3, b4, b5, b6, bf⟩ := A2.b
  obtain ⟨r0, r1, r2, r3, r4, r5, r6, rf⟩ := A2.r
  have gk := A2.k
  have gt := answers_open A2.t
  have gl := A2.b.lt
  have gl2 := A2.r.lt
  have gl3 : w.heap.size < w2.heap.size + 1 := by omega
  have gl4 : w.heap.size + 1 < w2.heap.size + 1 := by omega
  go_region
  go_wp2
  refine fin21 (n := num) (wi := wi) (a := at_) (v := 0) (s' := ⟨#[]⟩) (p := 0) (q := 0) A2.r ((((Kp.refl [] _).alloc _).alloc _).drew.drew) _ _ rfl rfl (GOut.no rfl _ _ _ _ _ _ _ _ ?_)
  exact (((kp_put7 gk (Or.inr (Nat.le_refl _)) num wi at_ 0 ⟨#[]⟩ 0 0).alloc _).alloc _).drew.drew


end Go.Proofs.Qxb6612892aFmt
