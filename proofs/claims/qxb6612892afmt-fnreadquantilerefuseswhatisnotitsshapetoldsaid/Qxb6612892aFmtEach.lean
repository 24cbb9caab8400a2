/-
  THE CONTRACTS of (protoMessage).each and (protoField).each at the closure of readQuantile.
-/
import Derived.Test.Qxb6612892aFmtClosure
namespace Go.Proofs.Qxb6612892aFmt
open Go.RowKit
open Go.Extern.Stop Go.Stop Go.Extern
set_option linter.unusedVariables false

/-- where the message stands, out of memory: the loop's measure -/
def atOf (w : World) (mb : Nat) : Nat := match w.cell? ⟨mb, 1, none⟩ with | some (.int _ n) => n.toNat | _ => 0

theorem Msg.atOf {w : World} {mb : Nat} {s : ByteArray} {a e : Nat} (h : Msg w mb s a e) : atOf w mb = a := by unfold Qxb6612892aFmt.atOf; rw [h.c1]; rfl

theorem readL_step (f : Nat) (l : List UInt8) (q x : Nat) (hl : 0 < l.length) (hf : l.length ≤ f + 1) :
    readL (f + 1) l q x = (match field l with | none => none | some (n, wi, v, l') => match take1 n wi v q x with | none => none | some (q', x') => readL f l' q' x') := by
  cases l with
  | nil => simp at hl
  | cons c r => rfl

/-- the reader with fuel to spare -/
def rd (l : List UInt8) (q x : Nat) : Option (Nat × Nat) := readL l.length l q x

theorem rd_nil (q x : Nat) : rd [] q x = some (q, x) := rfl

theorem rd_no (l : List UInt8) (q x : Nat) (hl : 0 < l.length) (h : field l = none) : rd l q x = none := by
  unfold rd
  rw [show l.length = (l.length - 1) + 1 by omega, readL_step _ _ _ _ hl (by omega), h]

theorem rd_bad (l : List UInt8) (q x : Nat) (hl : 0 < l.length) (n wi v : Int) (r : List UInt8) (h : field l = some (n, wi, v, r)) (ht : take1 n wi v q x = none) : rd l q x = none := by
  unfold rd
  rw [show l.length = (l.length - 1) + 1 by omega, readL_step _ _ _ _ hl (by omega), h]
  simp only
  rw [ht]

theorem rd_ok (l : List UInt8) (q x : Nat) (hl : 0 < l.length) (n wi v : Int) (r : List UInt8) (q' x' : Nat) (h : field l = some (n, wi, v, r)) (ht : take1 n wi v q x = some (q', x')) : rd l q x = rd r q' x' := by
  unfold rd
  have := field_len _ _ _ _ _ h
  rw [show l.length = (l.length - 1) + 1 by omega, readL_step _ _ _ _ hl (by omega), h]
  simp only
  rw [ht]
  exact readL_more _ _ _ _ _ (by omega) (by omega)

theorem Kp.then {S T : List Nat} {a b c : World} (h : Kp S a b) (k : Kp T b c) (ht : ∀ i, i ∈ T → i ∈ S ∨ a.heap.size ≤ i) : Kp S a c :=
  ⟨k.os.trans h.os, k.tape.trans h.tape, k.output.trans h.output, Nat.le_trans h.size k.size,
    fun i hi hs => (k.block i (Nat.lt_of_lt_of_le hi h.size) (fun e => by rcases ht i e with e | e; exact hs e; omega)).trans (h.block i hi hs)⟩

/-- the closure's value -/
def clo (qb : Nat) : Value := .func (Fn.func 15) #[] #[.pointer (some ⟨qb, 0, none⟩)]

set_option maxRecDepth 100000 in
set_option maxHeartbeats 1000000 in
theorem c18 (F : Interp) (s : ByteArray) (at_ en qb q x : Nat) (w : World) (o : Option (Nat × Nat)) (hF : F.answers w.tape) (hq : Q2 w qb q x) (hle : at_ ≤ en) (hs : en ≤ s.size) (hsz : s.size ≤ 1048576)
    (ho : rd (rs s at_ en) q x = o) :
    Calls Tryf.prog 18 #[.agg #[.string s, .int .i64 at_, .int .i64 en], clo qb] w fun e w' => COut qb w o e w' := by
  unfold clo
  have HO : Hid (rd (rs s at_ en) q x = o) := ho
  have hqb := lt_of_cell hq.c0
  have hq0 := hq.kept ((Kp.refl [] w).alloc (.cells #[.string s, .int .i64 at_, .int .i64 en] 33)) (by simp)
  have hm0 : Msg (w.alloc (.cells #[.string s, .int .i64 at_, .int .i64 en] 33)) w.heap.size s at_ en := by constructor <;> simp
  have hk0 : Kp [qb] w (w.alloc (.cells #[.string s, .int .i64 at_, .int .i64 en] 33)) := (Kp.refl _ _).alloc _
  clear ho
  go_enter Tryf.func18, Tryf.ntmps18
  go_wp2_with fail
  go_loopw [5, 6] (fun _ _ wr => ∃ p q' x', p ≤ en ∧ Msg wr w.heap.size s p en ∧ Q2 wr qb q' x' ∧ Kp [qb] w wr ∧ Hid (rd (rs s p en) q' x' = o)) (fun _ _ wr => en - atOf wr w.heap.size)
  case atStart => exact ⟨at_, q, x, hle, hm0, hq0, hk0, HO⟩
  case round =>
    clear hm0 hq0 hk0 HO
    obtain ⟨p, q', x', hp, hm, hq1, hk, HP⟩ := hrel
    have gF : F.answers wr.tape := by rw [hk.tape]; exact hF
    have hsz1 := hk.size
    have HM : Hid (Msg wr w.heap.size s p en) := hm
    have HQ : Hid (Q2 wr qb q' x') := hq1
    obtain ⟨m0, m1, m2, mf⟩ := hm
    clear hq hF hq1
    by_cases hpe : p < en
    · have hpos : 0 < (rs s p en).length := by rw [rs_len s p en hs]; omega
      cases hfd : field (rs s p en) with
      | none =>
        have HE : Hid (o = none) := by
          have := HP.out
          rw [rd_no _ _ _ hpos hfd] at this
          exact this.symm
        have HC := c21 F w.heap.size s p en wr gF HM.out (by omega) hs hsz
        rw [hfd] at HC
        have HCC : Hid (Calls Tryf.prog 21 #[.pointer (some ⟨w.heap.size, 0, none⟩)] wr fun e w' => GOut w.heap.size s en wr none e w') := HC
        clear HC hfd HP hpos
        go_wp2_with fail
        refine (Calls.mono HCC.out ?_)
        rintro e w1 ⟨⟨n, wi, a, v, s', pp, qq, y, rfl⟩, k1⟩
        have hQ1 := HQ.out.kept k1 (by simp; omega)
        have hQ2 := fun ob => hQ1.kept ((Kp.refl [] w1).alloc ob) (by simp)
        have HQ2 : Hid _ := hQ2
        have hk2 : Kp [qb] w w1 := hk.then k1 (fun i hi => Or.inr (by simp at hi; omega))
        clear hQ1 hQ2 k1 HCC HQ HM
        unfold fld
        go_wp2_with fail
        go_ret
        exact ⟨q', x', _, rfl, hk2.alloc _, HQ2.out _, Or.inl ⟨HE.out, y, rfl⟩⟩
      | some t =>
        obtain ⟨n, wi, v, r⟩ := t
        have hr := field_suffix s p en hs hp n wi v r hfd
        have hlen := field_len _ _ _ _ _ hfd
        rw [rs_len s p en hs] at hlen
        have HC := c21 F w.heap.size s p en wr gF HM.out (by omega) hs hsz
        rw [hfd] at HC
        have HCC : Hid (Calls Tryf.prog 21 #[.pointer (some ⟨w.heap.size, 0, none⟩)] wr fun e w' => GOut w.heap.size s en wr (some (n, wi, v, r)) e w') := HC
        cases htk : take1 n wi v q' x' with
        | none =>
          have HE : Hid (o = none) := by
            have := HP.out
            rw [rd_bad _ _ _ hpos n wi v r hfd htk] at this
            exact this.symm
          have HT : Hid (take1 n wi v q' x' = none) := htk
          clear HC hfd HP hpos hr hlen htk
          go_wp2_with fail
          refine (Calls.mono HCC.out ?_)
          rintro e w1 ⟨⟨a, s', pp, qq, rfl⟩, k1, hm1⟩
          have hQ1 := HQ.out.kept k1 (by simp; omega)
          have hQ2 := hQ1.kept ((Kp.refl [] w1).alloc (.cells #[.int .u64 n, .int .u64 wi, .int .i64 a, .int .u64 v, .string s', .int .i64 pp, .int .i64 qq] 35)) (by simp)
          have hk2 : Kp [qb] w w1 := hk.then k1 (fun i hi => Or.inr (by simp at hi; omega))
          have gF1 : F.answers w1.tape := by rw [k1.tape]; exact gF
          have HQ2 : Hid (Q2 (w1.alloc (.cells #[.int .u64 n, .int .u64 wi, .int .i64 a, .int .u64 v, .string s', .int .i64 pp, .int .i64 qq] 35)) qb q' x') := hQ2
          clear hQ1 hQ2 k1 HCC HQ HM hm1
          unfold fld
          go_wp2_with fail
          refine (c15 F n wi a v pp qq s' qb q' x' _ (by exact gF1) (by exact HQ2.out)).mono ?_
          intro e w2 hc
          rw [HT.out] at hc
          obtain ⟨q2, x2, ev, rfl, k2, hq2, ⟨_, y, rfl⟩ | ⟨h, _⟩⟩ := hc
          · go_wp2_with fail
            go_ret
            exact ⟨q2, x2, _, rfl, (hk2.alloc _).trans k2, hq2, Or.inl ⟨HE.out, y, rfl⟩⟩
          · cases h
        | some t2 =>
          obtain ⟨q2, x2⟩ := t2
          have HE : Hid (rd r q2 x2 = o) := by
            have := HP.out
            rw [rd_ok _ _ _ hpos n wi v r q2 x2 hfd htk] at this
            exact this
          have HT : Hid (take1 n wi v q' x' = some (q2, x2)) := htk
          have HR : Hid (r = rs s (en - r.length) en) := hr
          have HL : Hid (r.length < en - p) := hlen
          clear HC hfd HP hpos hr hlen htk
          go_wp2_with fail
          refine (Calls.mono HCC.out ?_)
          rintro e w1 ⟨⟨a, s', pp, qq, rfl⟩, k1, hm1⟩
          have hQ1 := HQ.out.kept k1 (by simp; omega)
          have hQ2 := hQ1.kept ((Kp.refl [] w1).alloc (.cells #[.int .u64 n, .int .u64 wi, .int .i64 a, .int .u64 v, .string s', .int .i64 pp, .int .i64 qq] 35)) (by simp)
          have hM2 := hm1.kept ((Kp.refl [] w1).alloc (.cells #[.int .u64 n, .int .u64 wi, .int .i64 a, .int .u64 v, .string s', .int .i64 pp, .int .i64 qq] 35)) (by simp)
          have hk2 : Kp [qb] w w1 := hk.then k1 (fun i hi => Or.inr (by simp at hi; omega))
          have gF1 : F.answers w1.tape := by rw [k1.tape]; exact gF
          have HQ2 : Hid (Q2 (w1.alloc (.cells #[.int .u64 n, .int .u64 wi, .int .i64 a, .int .u64 v, .string s', .int .i64 pp, .int .i64 qq] 35)) qb q' x') := hQ2
          have HM2 : Hid (Msg (w1.alloc (.cells #[.int .u64 n, .int .u64 wi, .int .i64 a, .int .u64 v, .string s', .int .i64 pp, .int .i64 qq] 35)) w.heap.size s (en - r.length) en) := hM2
          clear hQ1 hQ2 k1 HCC HQ hm1 hM2
          unfold fld
          go_wp2_with fail
          refine (c15 F n wi a v pp qq s' qb q' x' _ (by exact gF1) (by exact HQ2.out)).mono ?_
          intro e w2 hc
          rw [HT.out] at hc
          obtain ⟨q3, x3, ev, rfl, k2, hq2, ⟨h, _⟩ | ⟨h, rfl⟩⟩ := hc
          · cases h
          · simp only [Option.some.injEq, Prod.mk.injEq] at h
            obtain ⟨rfl, rfl⟩ := h
            have HM3 : Hid (Msg w2 w.heap.size s (en - r.length) en) := HM2.out.kept k2 (by simp; omega)
            have HK3 : Hid (Kp [qb] w w2) := (hk2.alloc _).trans k2
            have HQ3 : Hid (Q2 w2 qb q2 x2) := hq2
            clear hk2 k2 hq2 HM2 HQ2 m0 m1 m2 mf
            go_wp2_with fail
            go_roundw
            case rel =>
              refine ⟨en - r.length, q2, x2, Nat.sub_le _ _, HM3.out, HQ3.out, HK3.out, ?_⟩
              show rd (rs s (en - r.length) en) q2 x2 = o
              rw [← HR.out]
              exact HE.out
            case measure =>
              have e1 := HM3.out.atOf
              have e2 := HM.out.atOf
              have := HL.out
              rw [e1, e2]
              omega
    · have HE : Hid (o = some (q', x')) := by
        have := HP.out
        rw [show p = en by omega, rs_nil, rd_nil] at this
        exact this.symm
      go_wp2_with fail
      go_ret
      exact ⟨q', x', _, rfl, hk, HQ.out, Or.inr ⟨HE.out, rfl⟩⟩

end Go.Proofs.Qxb6612892aFmt
