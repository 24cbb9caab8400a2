/-
  A field's seven cells; the ways in which varint, fixed and delimited end, under one form.
-/
import Derived.Test.Qxb6612892aFmtDelim
namespace Go.Proofs.Qxb6612892aFmt
open Go.RowKit
open Go.Extern.Stop Go.Stop Go.Extern
set_option linter.unusedVariables false

structure Cells7 (w : World) (b : Nat) (n wi a v : Int) (s : ByteArray) (p q : Int) : Prop where
  c0 : w.cell? ⟨b, 0, none⟩ = some (.int .u64 n)
  c1 : w.cell? ⟨b, 1, none⟩ = some (.int .u64 wi)
  c2 : w.cell? ⟨b, 2, none⟩ = some (.int .i64 a)
  c3 : w.cell? ⟨b, 3, none⟩ = some (.int .u64 v)
  c4 : w.cell? ⟨b, 4, none⟩ = some (.string s)
  c5 : w.cell? ⟨b, 5, none⟩ = some (.int .i64 p)
  c6 : w.cell? ⟨b, 6, none⟩ = some (.int .i64 q)
  fz : ∀ o, w.frozen? ⟨b, o, none⟩ = false

theorem Cells7.lt {w : World} {b : Nat} {n wi a v : Int} {s : ByteArray} {p q : Int} (h : Cells7 w b n wi a v s p q) : b < w.heap.size := lt_of_cell h.c0

theorem Cells7.kept {w w' : World} {b : Nat} {n wi a v : Int} {s : ByteArray} {p q : Int} {S : List Nat} (h : Cells7 w b n wi a v s p q) (k : Kp S w w') (hs : b ∉ S) : Cells7 w' b n wi a v s p q :=
  have hb := h.lt
  ⟨(k.cell hb hs).trans h.c0, (k.cell hb hs).trans h.c1, (k.cell hb hs).trans h.c2, (k.cell hb hs).trans h.c3, (k.cell hb hs).trans h.c4, (k.cell hb hs).trans h.c5, (k.cell hb hs).trans h.c6,
    fun o => (k.frozen hb hs).trans (h.fz o)⟩

theorem Cells7.new (w : World) (n wi a v : Int) (s : ByteArray) (p q : Int) :
    Cells7 (w.alloc (.cells #[.int .u64 n, .int .u64 wi, .int .i64 a, .int .u64 v, .string s, .int .i64 p, .int .i64 q] 35)) w.heap.size n wi a v s p q := by
  constructor
  all_goals simp

theorem Cells7.set01 {w : World} {b : Nat} {n wi a v : Int} {s : ByteArray} {p q : Int} (h : Cells7 w b n wi a v s p q) (n' wi' : Int) :
    Cells7 ((w.setCell ⟨b, 0, none⟩ (.int .u64 n')).setCell ⟨b, 1, none⟩ (.int .u64 wi')) b n' wi' a v s p q := by
  have o : ∀ (u : World) (i j : Nat) (x : Value), i ≠ j → (u.setCell ⟨b, i, none⟩ x).cell? ⟨b, j, none⟩ = u.cell? ⟨b, j, none⟩ := fun u i j x hij => World.cell?_setCell_other _ _ _ _ (by intro e; exact hij (congrArg Addr.off e))
  refine ⟨?_, ?_, ?_, ?_, ?_, ?_, ?_, fun i => ?_⟩
  · rw [o _ 1 0 _ (by decide)]; exact World.cell?_setCell_same _ _ _ h.c0
  · exact World.cell?_setCell_same _ _ _ ((o _ 0 1 _ (by decide)).trans h.c1)
  · rw [o _ 1 2 _ (by decide), o _ 0 2 _ (by decide)]; exact h.c2
  · rw [o _ 1 3 _ (by decide), o _ 0 3 _ (by decide)]; exact h.c3
  · rw [o _ 1 4 _ (by decide), o _ 0 4 _ (by decide)]; exact h.c4
  · rw [o _ 1 5 _ (by decide), o _ 0 5 _ (by decide)]; exact h.c5
  · rw [o _ 1 6 _ (by decide), o _ 0 6 _ (by decide)]; exact h.c6
  · rw [World.frozen?_setCell, World.frozen?_setCell]; exact h.fz i

/-- how a call of varint or fixed ends, the two ways under one form -/
theorem VOut.uni {mb : Nat} {s : ByteArray} {en : Nat} {w w' : World} {o : Option (Int × List UInt8)} {e : Ending} (h : VOut mb s en w o e w') :
    ∃ v' ev, e = .returned (.tuple #[.int .u64 v', ev]) ∧ Kp [mb] w w' ∧ ((o = none ∧ ∃ x, ev = .iface 56 x) ∨ (∃ r, o = some (v', r) ∧ ev = .nilIface ∧ Msg w' mb s (en - r.length) en)) := by
  cases o with
  | none =>
    obtain ⟨⟨x, rfl⟩, k⟩ := h
    exact ⟨_, _, rfl, k.any, Or.inl ⟨rfl, x, rfl⟩⟩
  | some p =>
    obtain ⟨v, r⟩ := p
    obtain ⟨rfl, k, m⟩ := h
    exact ⟨_, _, rfl, k, Or.inr ⟨r, rfl, rfl, m⟩⟩

theorem DOut.uni {mb : Nat} {s : ByteArray} {en : Nat} {w w' : World} {o : Option (List UInt8)} {e : Ending} (h : DOut mb s en w o e w') :
    ∃ s' p q ev, e = .returned (.tuple #[.agg #[.string s', .int .i64 p, .int .i64 q], ev]) ∧ Kp [mb] w w' ∧ ((o = none ∧ ∃ x, ev = .iface 56 x) ∨ (∃ r, o = some r ∧ ev = .nilIface ∧ Msg w' mb s (en - r.length) en)) := by
  cases o with
  | none =>
    obtain ⟨⟨s', p, q, x, rfl⟩, k⟩ := h
    exact ⟨_, _, _, _, rfl, k, Or.inl ⟨rfl, x, rfl⟩⟩
  | some r =>
    obtain ⟨⟨s', p, q, rfl⟩, k, m⟩ := h
    exact ⟨_, _, _, _, rfl, k, Or.inr ⟨r, rfl, rfl, m⟩⟩

/-- fixed, both ways -/
theorem c24 (F : Interp) (mb : Nat) (s : ByteArray) (at_ en nn : Nat) (w : World) (hF : F.answers w.tape) (hm : Msg w mb s at_ en) (hle : at_ ≤ en) (hs : en ≤ s.size) (hsz : s.size ≤ 1048576) (hn : nn ≤ 8) :
    Calls Tryf.prog 24 #[.pointer (some ⟨mb, 0, none⟩), .int .i64 nn] w fun e w' => VOut mb s en w (fixd nn (rs s at_ en)) e w' := by
  unfold fixd
  have hl := rs_len s at_ en hs
  by_cases h : (rs s at_ en).length < nn
  · rw [if_pos h]
    exact c24no F mb s at_ en nn w hF hm hle hs hsz hn (by omega)
  · rw [if_neg h]
    exact c24yes mb s at_ en nn w hm hle hs hsz hn (by omega) _ rfl

/-- how a call of field ends -/
def GOut (mb : Nat) (s : ByteArray) (en : Nat) (w : World) (o : Option (Int × Int × Int × List UInt8)) (e : Ending) (w' : World) : Prop :=
  match o with
  | none => (∃ n wi a v s' p q x, e = .returned (.tuple #[fld n wi a v s' p q, .iface 56 x])) ∧ Kp [mb] w w'
  | some (n, wi, v, r) => (∃ a s' p q, e = .returned (.tuple #[fld n wi a v s' p q, .nilIface])) ∧ Kp [mb] w w' ∧ Msg w' mb s (en - r.length) en

theorem GOut.no {mb : Nat} {s : ByteArray} {en : Nat} {w w' : World} {o : Option (Int × Int × Int × List UInt8)} (ho : o = none) (n wi a v : Int) (s' : ByteArray) (p q : Int) (x : Value) (k : Kp [mb] w w') :
    GOut mb s en w o (.returned (.tuple #[fld n wi a v s' p q, .iface 56 x])) w' := by subst ho; exact ⟨⟨n, wi, a, v, s', p, q, x, rfl⟩, k⟩

theorem GOut.yes {mb : Nat} {s : ByteArray} {en : Nat} {w w' : World} {o : Option (Int × Int × Int × List UInt8)} {n wi v : Int} {r : List UInt8} (ho : o = some (n, wi, v, r)) (a : Int) (s' : ByteArray) (p q : Int) (k : Kp [mb] w w') (m : Msg w' mb s (en - r.length) en) :
    GOut mb s en w o (.returned (.tuple #[fld n wi a v s' p q, .nilIface])) w' := by subst ho; exact ⟨⟨a, s', p, q, rfl⟩, k, m⟩

/-- seven cells written one behind the other -/
def put7 (w : World) (b : Nat) (n wi a v : Int) (s : ByteArray) (p q : Int) : World :=
  (((((((w.setCell ⟨b, 0, none⟩ (.int .u64 n)).setCell ⟨b, 1, none⟩ (.int .u64 wi)).setCell ⟨b, 2, none⟩ (.int .i64 a)).setCell ⟨b, 3, none⟩ (.int .u64 v)).setCell ⟨b, 4, none⟩ (.string s)).setCell ⟨b, 5, none⟩ (.int .i64 p)).setCell ⟨b, 6, none⟩ (.int .i64 q))

theorem cells_put7 {w : World} {b : Nat} {n0 wi0 a0 v0 : Int} {s0 : ByteArray} {p0 q0 : Int} (h : Cells7 w b n0 wi0 a0 v0 s0 p0 q0) (n wi a v : Int) (s : ByteArray) (p q : Int) : Cells7 (put7 w b n wi a v s p q) b n wi a v s p q := by
  have o : ∀ (u : World) (i j : Nat) (x : Value), i ≠ j → (u.setCell ⟨b, i, none⟩ x).cell? ⟨b, j, none⟩ = u.cell? ⟨b, j, none⟩ := fun u i j x hij => World.cell?_setCell_other _ _ _ _ (by intro e; exact hij (congrArg Addr.off e))
  have e : ∀ (u : World) (i : Nat) (x y : Value), u.cell? ⟨b, i, none⟩ = some y → (u.setCell ⟨b, i, none⟩ x).cell? ⟨b, i, none⟩ = some x := fun u i x y hy => World.cell?_setCell_same _ _ _ hy
  unfold put7
  refine ⟨?_, ?_, ?_, ?_, ?_, ?_, ?_, fun i => ?_⟩
  · rw [o _ 6 0 _ (by decide), o _ 5 0 _ (by decide), o _ 4 0 _ (by decide), o _ 3 0 _ (by decide), o _ 2 0 _ (by decide), o _ 1 0 _ (by decide)]; exact e _ _ _ _ h.c0
  · rw [o _ 6 1 _ (by decide), o _ 5 1 _ (by decide), o _ 4 1 _ (by decide), o _ 3 1 _ (by decide), o _ 2 1 _ (by decide)]
    refine e _ _ _ (.int .u64 wi0) ?_
    rw [o _ 0 1 _ (by decide)]; exact h.c1
  · rw [o _ 6 2 _ (by decide), o _ 5 2 _ (by decide), o _ 4 2 _ (by decide), o _ 3 2 _ (by decide)]
    refine e _ _ _ (.int .i64 a0) ?_
    rw [o _ 1 2 _ (by decide), o _ 0 2 _ (by decide)]; exact h.c2
  · rw [o _ 6 3 _ (by decide), o _ 5 3 _ (by decide), o _ 4 3 _ (by decide)]
    refine e _ _ _ (.int .u64 v0) ?_
    rw [o _ 2 3 _ (by decide), o _ 1 3 _ (by decide), o _ 0 3 _ (by decide)]; exact h.c3
  · rw [o _ 6 4 _ (by decide), o _ 5 4 _ (by decide)]
    refine e _ _ _ (.string s0) ?_
    rw [o _ 3 4 _ (by decide), o _ 2 4 _ (by decide), o _ 1 4 _ (by decide), o _ 0 4 _ (by decide)]; exact h.c4
  · rw [o _ 6 5 _ (by decide)]
    refine e _ _ _ (.int .i64 p0) ?_
    rw [o _ 4 5 _ (by decide), o _ 3 5 _ (by decide), o _ 2 5 _ (by decide), o _ 1 5 _ (by decide), o _ 0 5 _ (by decide)]; exact h.c5
  · refine e _ _ _ (.int .i64 q0) ?_
    rw [o _ 5 6 _ (by decide), o _ 4 6 _ (by decide), o _ 3 6 _ (by decide), o _ 2 6 _ (by decide), o _ 1 6 _ (by decide), o _ 0 6 _ (by decide)]; exact h.c6
  · rw [World.frozen?_setCell, World.frozen?_setCell, World.frozen?_setCell, World.frozen?_setCell, World.frozen?_setCell, World.frozen?_setCell, World.frozen?_setCell]; exact h.fz i

theorem kp_put7 {S : List Nat} {a w : World} (h : Kp S a w) {b : Nat} (hb : b ∈ S ∨ a.heap.size ≤ b) (n wi at_ v : Int) (s : ByteArray) (p q : Int) : Kp S a (put7 w b n wi at_ v s p q) :=
  ((((((h.setCell hb _).setCell hb _).setCell hb _).setCell hb _).setCell hb _).setCell hb _).setCell hb _

end Go.Proofs.Qxb6612892aFmt
