/-
  THE CONTRACT of (*protoMessage).varint.
-/
import Derived.Test.Qxb6612892aFmtSmall
import Derived.Test.Qxb6612892aFmtPlain
namespace Go.Proofs.Qxb6612892aFmt
open Go.RowKit
open Go.Extern.Stop Go.Stop Go.Extern

/-- the bytes of s from a on, up to e -/
def rs (s : ByteArray) (a e : Nat) : List UInt8 := (s.data.toList.take e).drop a

theorem rs_cons (s : ByteArray) (a e : Nat) (h : a < e) (he : e ≤ s.size) : rs s a e = s[a] :: rs s (a + 1) e := by
  unfold rs
  have hl : a < (s.data.toList.take e).length := by
    have : s.data.toList.length = s.size := by simp
    rw [List.length_take]; omega
  rw [List.drop_eq_getElem_cons hl]
  congr 1
  rw [List.getElem_take]
  rfl

theorem rs_nil (s : ByteArray) (e : Nat) : rs s e e = [] := by
  unfold rs
  rw [List.drop_eq_nil_of_le]
  rw [List.length_take]; omega

theorem rs_len (s : ByteArray) (a e : Nat) (he : e ≤ s.size) : (rs s a e).length = e - a := by
  unfold rs
  have : s.data.toList.length = s.size := by simp
  rw [List.length_drop, List.length_take]; omega

/-- a message's three cells -/
structure Msg (w : World) (mb : Nat) (s : ByteArray) (a e : Nat) : Prop where
  c0 : w.cell? ⟨mb, 0, none⟩ = some (.string s)
  c1 : w.cell? ⟨mb, 1, none⟩ = some (.int .i64 a)
  c2 : w.cell? ⟨mb, 2, none⟩ = some (.int .i64 e)
  f1 : w.frozen? ⟨mb, 1, none⟩ = false

theorem Msg.kept {w w' : World} {mb : Nat} {s : ByteArray} {a e : Nat} {S : List Nat} (h : Msg w mb s a e) (k : Kp S w w') (hs : mb ∉ S) : Msg w' mb s a e :=
  have hb := lt_of_cell h.c0
  ⟨(k.cell hb hs).trans h.c0, (k.cell hb hs).trans h.c1, (k.cell hb hs).trans h.c2, (k.frozen hb hs).trans h.f1⟩

theorem Msg.set {w : World} {mb : Nat} {s : ByteArray} {a e : Nat} (h : Msg w mb s a e) (x : Nat) : Msg (w.setCell ⟨mb, 1, none⟩ (.int .i64 x)) mb s x e :=
  ⟨(World.cell?_setCell_other _ _ _ _ (by simp)).trans h.c0, World.cell?_setCell_same _ _ _ h.c1, (World.cell?_setCell_other _ _ _ _ (by simp)).trans h.c2, (World.frozen?_setCell _ _ _ _).trans h.f1⟩

theorem Msg.drewN {w : World} {mb : Nat} {s : ByteArray} {a e : Nat} (h : Msg w mb s a e) (n : Nat) : Msg (w.drewN n) mb s a e := ⟨h.c0, h.c1, h.c2, h.f1⟩

theorem run_idx (s : ByteArray) (a k : Nat) (h : a + k < s.size) (W : World) : Sem.run Tryf.prog (Instr.index 9 (.string s) (.int .i64 ((a : Int) + (k : Int)))) W = .ok (.int .u8 ((s[a + k]).toNat : Int)) W := by
  rw [run_index_string _ _ _ _ _ Tryf.underlying9, dif_pos ⟨by omega, by omega⟩]
  have e : ((a : Int) + (k : Int)).toNat = a + k := by omega
  simp only [e]

/-- how a call of varint ends -/
def VOut (mb : Nat) (s : ByteArray) (en : Nat) (w : World) (o : Option (Int × List UInt8)) (e : Ending) (w' : World) : Prop :=
  match o with
  | none => (∃ x, e = .returned (.tuple #[.int .u64 0, .iface 56 x])) ∧ Kp [] w w'
  | some (v, r) => e = .returned (.tuple #[.int .u64 v, .nilIface]) ∧ Kp [mb] w w' ∧ Msg w' mb s (en - r.length) en

theorem VOut.no {mb : Nat} {s : ByteArray} {en : Nat} {w w' : World} {o : Option (Int × List UInt8)} (h : o = none) (x : Value) (k : Kp [] w w') :
    VOut mb s en w o (.returned (.tuple #[.int .u64 0, .iface 56 x])) w' := by subst h; exact ⟨⟨x, rfl⟩, k⟩

theorem VOut.yes {mb : Nat} {s : ByteArray} {en : Nat} {w w' : World} {o : Option (Int × List UInt8)} {v u : Int} {r : List UInt8} (h : o = some (v, r)) (hu : u = v) (k : Kp [mb] w w') (m : Msg w' mb s (en - r.length) en) :
    VOut mb s en w o (.returned (.tuple #[.int .u64 u, .nilIface])) w' := by subst h; subst hu; exact ⟨rfl, k, m⟩

theorem vint_nil (f k : Nat) (v : Int) : vint f k v [] = none := by cases f <;> simp [vint]

theorem msg_end {w : World} {mb : Nat} {s : ByteArray} {a en : Nat} (h : Msg w mb s a en) (k : Nat) (hk : a + k < en) (hs : en ≤ s.size) (n : Nat) :
    Msg ((w.drewN n).setCell ⟨mb, 1, none⟩ (.int .i64 ((a : Int) + ((k : Int) + 1)))) mb s (en - (rs s (a + k + 1) en).length) en := by
  rw [rs_len s _ _ hs]
  have e : en - (en - (a + k + 1)) = a + k + 1 := by omega
  rw [e]
  have := (h.drewN n).set (a + k + 1)
  rw [show (((a + k + 1 : Nat)) : Int) = (a : Int) + ((k : Int) + 1) by omega] at this
  exact this

set_option maxRecDepth 100000 in
set_option maxHeartbeats 1000000 in
theorem c23 (mb : Nat) (s : ByteArray) (at_ en : Nat) (w : World) (o : Option (Int × List UInt8)) (hm : Msg w mb s at_ en) (hle : at_ ≤ en) (hs : en ≤ s.size) (hsz : s.size ≤ 1048576)
    (ho : vint 10 0 0 (rs s at_ en) = o) :
    Calls Tryf.prog 23 #[.pointer (some ⟨mb, 0, none⟩)] w fun e w' => VOut mb s en w o e w' := by
  obtain ⟨h0, h1, h2, hf⟩ := hm
  have HO : Hid (vint 10 0 0 (rs s at_ en) = o) := ho
  clear ho
  go_enter Tryf.func23, Tryf.ntmps23
  go_wp2
  go_loopw [4, 5] (fun v i wr => ∃ (k : Nat) (V : Int), k ≤ 10 ∧ at_ + k ≤ en ∧ i = .int .i64 k ∧ v = .int .u64 V ∧ Hid (vint (10 - k) k V (rs s (at_ + k) en) = o) ∧ (∃ n, wr = w.drewN n)) (fun _ i _ => 10 - (intOf i).toNat)
  case atStart => exact ⟨0, 0, by omega, by omega, rfl, rfl, HO, 0, rfl⟩
  case round =>
    obtain ⟨k, V, hk, hk2, rfl, rfl, HV, ⟨n, rfl⟩⟩ := hrel
    by_cases hlt : k < 10
    · by_cases he : at_ + k = en
      · have hb : ((at_ : Int) + (k : Int) == (en : Int)) = true := beq_iff_eq.2 (by omega)
        have HE : Hid (o = none) := by
          have := HV.out
          rw [he, rs_nil, vint_nil] at this
          exact this.symm
        clear he
        go_wp2_with fail
        go_quiet (fail)
        go_wp2_with fail
        go_region
        all_goals go_wp2
        all_goals go_ret2
        all_goals exact VOut.no HE.out _ (by repeat (first | exact Kp.refl _ _ | apply Kp.drewN | apply Kp.alloc | apply Kp.drew))
      · have hb : ((at_ : Int) + (k : Int) == (en : Int)) = false := beq_eq_false_iff_ne.2 (by omega)
        have hi : (at_ : Int) + (k : Int) < (s.size : Int) := by omega
        have hidx := run_idx s at_ k (by omega)
        have HV2 : Hid (vint (10 - k) k V (s[at_ + k] :: rs s (at_ + k + 1) en) = o) := by
          have := HV.out
          rw [rs_cons s _ _ (by omega) hs] at this
          exact this
        generalize s[at_ + k] = c at hidx HV2
        have hw : IntKind.i64.wrap ((at_ : Int) + (k : Int)) = (at_ : Int) + (k : Int) := IntWalk.i64_in _ (by omega)
        have HV3 : Hid ((if c.toNat < 128 then (if k = 9 ∧ 1 < c.toNat then none else some (vstep V k c, rs s (at_ + k + 1) en)) else vint (9 - k) (k + 1) (vstep V k c) (rs s (at_ + k + 1) en)) = o) := by
          have := HV2.out
          rw [show 10 - k = (9 - k) + 1 by omega] at this
          simp only [vint] at this
          exact this
        clear HV HV2 HO
        by_cases hc : (c.toNat : Int) < 128
        · by_cases h9 : k = 9 ∧ 1 < c.toNat
          · have HE : Hid (o = none) := by
              have := HV3.out
              rw [if_pos (by omega), if_pos h9] at this
              exact this.symm
            have hb9 : ((k : Int) == 9) = true := beq_iff_eq.2 (by omega)
            have hc1 : (1 : Int) < (c.toNat : Int) := by omega
            clear h9 HV3 he
            go_wp2_with fail
            go_quiet (fail)
            go_wp2_with fail
            go_quiet (fail)
            go_wp2_with fail
            go_region
            all_goals go_wp2
            all_goals go_ret2
            all_goals exact VOut.no HE.out _ (by repeat (first | exact Kp.refl _ _ | apply Kp.drewN | apply Kp.alloc | apply Kp.drew))
          · have HE : Hid (o = some (vstep V k c, rs s (at_ + k + 1) en)) := by
              have := HV3.out
              rw [if_pos (by omega), if_neg h9] at this
              exact this.symm
            by_cases hk9 : k = 9
            · have hb9 : ((k : Int) == 9) = true := beq_iff_eq.2 (by omega)
              have hc1 : ¬ (1 : Int) < (c.toNat : Int) := by omega
              have hw2 : IntKind.i64.wrap ((at_ : Int) + ((k : Int) + 1)) = (at_ : Int) + ((k : Int) + 1) := IntWalk.i64_in _ (by omega)
              have HM : Hid (at_ + k < en) := by show at_ + k < en; omega
              clear h9 HV3 he hk9
              go_wp2_with fail
              go_quiet (fail)
              go_wp2_with fail
              go_quiet (fail)
              go_wp2_with fail
              go_ret2
              show VOut mb s en w o (.returned (.tuple #[.int .u64 (vstep V k c), .nilIface])) _
              exact VOut.yes HE.out rfl (((Kp.refl _ _).drewN _).setCell (Or.inl (by simp)) _) (msg_end ⟨h0, h1, h2, hf⟩ k HM.out hs _)
            · have hb9 : ((k : Int) == 9) = false := beq_eq_false_iff_ne.2 (by omega)
              have hw2 : IntKind.i64.wrap ((at_ : Int) + ((k : Int) + 1)) = (at_ : Int) + ((k : Int) + 1) := IntWalk.i64_in _ (by omega)
              have HM : Hid (at_ + k < en) := by show at_ + k < en; omega
              clear h9 HV3 he hk9
              go_wp2_with fail
              go_quiet (fail)
              go_wp2_with fail
              go_quiet (fail)
              go_wp2_with fail
              go_ret2
              show VOut mb s en w o (.returned (.tuple #[.int .u64 (vstep V k c), .nilIface])) _
              exact VOut.yes HE.out rfl (((Kp.refl _ _).drewN _).setCell (Or.inl (by simp)) _) (msg_end ⟨h0, h1, h2, hf⟩ k HM.out hs _)
        · have HE : Hid (vint (9 - k) (k + 1) (vstep V k c) (rs s (at_ + k + 1) en) = o) := by
            have := HV3.out
            rw [if_neg (by omega)] at this
            exact this
          have HM : Hid (at_ + (k + 1) ≤ en) := by show at_ + (k + 1) ≤ en; omega
          clear HV3 he
          go_wp2_with fail
          go_quiet (fail)
          go_wp2_with fail
          go_quiet (fail)
          go_wp2_with fail
          go_roundw
          case rel =>
            refine ⟨k + 1, vstep V k c, by omega, HM.out, by go_num, rfl, ?_, _, rfl⟩
            show vint (10 - (k + 1)) (k + 1) (vstep V k c) (rs s (at_ + (k + 1)) en) = o
            rw [show 10 - (k + 1) = 9 - k by omega, show at_ + (k + 1) = at_ + k + 1 by omega]
            exact HE.out
          case measure => simp [intOf]; omega
    · have HE : Hid (o = none) := by
        have := HV.out
        rw [show 10 - k = 0 by omega] at this
        simp only [vint] at this
        exact this.symm
      go_wp2_with fail
      go_region
      all_goals go_wp2
      all_goals go_ret2
      all_goals exact VOut.no HE.out _ (by repeat (first | exact Kp.refl _ _ | apply Kp.drewN | apply Kp.alloc | apply Kp.drew))

end Go.Proofs.Qxb6612892aFmt
