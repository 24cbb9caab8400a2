/-
  encodeElements: the words of its walk.
-/
import Derived.Test.Qxb6613208aDoorLook
import Derived.Test.Qxb6613208aDoorEnd
import Derived.Test.Qxb6613208aDoorLit
import Derived.Test.Qxb6613208aDoorReset
namespace Go.Proofs.Qxb6613208aDoor
open Go.RowKit
set_option linter.unusedVariables false

/-- emitLiteral, whatever the length -/
theorem c17_all (b s d l p n ns c : Nat) (a : Option Addr) (S f : Nat → Nat) (w : World) (hR : Row w b n f) (hF : Free w b) (hS : Row w s ns S) (hne : s ≠ b) (ha : l ≠ 0 → a = some ⟨s, p, none⟩) (hp : p + l ≤ ns) (hd : d + 1 + l + l / 8 ≤ n) (hM : n ≤ 1048576) :
    Calls Tryd.prog 17 #[.slice (some ⟨b, 0, none⟩) n n, .int .i64 d, .slice a l c] w fun e w' => ∃ (e' m : Nat) (g : Nat → Nat) (lb : Bool), e = .returned (.int .i64 e') ∧ e' ≤ d + 1 + l + l / 8 ∧ Wrote S f g w w' b n d p false m e' (p + l) lb := by
  by_cases h : l = 0
  · subst h
    refine (c17_none _ d c a w).mono ?_
    rintro e w' ⟨rfl, rfl⟩
    exact ⟨d, 0, f, false, rfl, by omega, Wrote.refl hR hF⟩
  · rw [ha h]
    refine (c17 b s d l p n ns c S f w hR hF hS hne (by omega) hp hd hM).mono ?_
    rintro e w' ⟨e', g, rfl, h1, h2⟩
    exact ⟨e', 1, g, true, rfl, h1, h2⟩

/-- the bytes i .. e stand r back too -/
structure Mat (S : Nat → Nat) (N i r z : Nat) : Prop where
  a : 1 ≤ r
  b : r ≤ i
  c : r ≤ 65535
  d : i + 4 ≤ z
  e : z ≤ N
  f : ∀ k, i ≤ k → k < z → S k = S (k - r)

theorem mat_of {S : Nat → Nat} {N i r e : Nat} (h : Back S i r) (h0 : r ≠ 0) (h1 : i + 4 ≤ e) (h2 : e ≤ N) (h3 : ∀ k, i + 4 ≤ k → k < e → S k = S (k - r)) : Mat S N i r e := by
  rcases h with h | ⟨a, b, c, d⟩
  · exact absurd h h0
  · refine ⟨a, b, c, h1, h2, fun k k1 k2 => ?_⟩
    by_cases k3 : k < i + 4
    · have := d (k - i) (by omega)
      rw [show i - r + (k - i) = k - r by omega, show i + (k - i) = k by omega] at this
      exact this.symm
    · exact h3 k (by omega) k2

/-- how the encoder's loop stands: written to dd, lit the first byte not written -/
def EncAt (S f : Nat → Nat) (w wr : World) (b t n d0 from0 dd lit : Nat) : Prop :=
  ∃ (g : Nat → Nat) (m : Nat) (lb : Bool), Row wr b n g ∧ Free wr b ∧ Kp [b, t] w wr ∧ Only f g d0 dd ∧ Steps S g m (d0, from0, false) (dd, lit, lb) ∧ lb = false ∧ 8 * dd ≤ 8 * d0 + 9 * (lit - from0) ∧ from0 ≤ lit ∧ d0 ≤ dd

theorem EncAt.kept {S f : Nat → Nat} {w wr wx : World} {b t n d0 from0 dd lit : Nat} (h : EncAt S f w wr b t n d0 from0 dd lit) (hk : Kp [t] wr wx) (hbt : b ≠ t) (hb : b < wr.heap.size) : EncAt S f w wx b t n d0 from0 dd lit := by
  obtain ⟨g, m, lb, h1, h2, h3, h4⟩ := h
  exact ⟨g, m, lb, h1.kept hk (by simpa using hbt), h2.kept hk (by simpa using hbt) hb, h3.trans (hk.mono (fun k _ e => by simp at e; simp [e])), h4⟩

/-- a literal and a copy behind it -/
theorem EncAt.next {S f : Nat → Nat} {w wr wy wz : World} {b t n d0 from0 dd lit st e d1 d2 m1 m2 : Nat} {g g1 g2 : Nat → Nat} {m : Nat} {la : Bool}
    (h3 : Kp [b, t] w wr) (h4 : Only f g d0 dd) (h5 : Steps S g m (d0, from0, false) (dd, lit, false)) (h6 : 8 * dd ≤ 8 * d0 + 9 * (lit - from0)) (h7 : from0 ≤ lit) (h8 : d0 ≤ dd)
    (hl : lit ≤ st) (he : st + 4 ≤ e)
    (x : Wrote S g g1 wr wy b n dd lit false m1 d1 (lit + (st - lit)) la) (hx : d1 ≤ dd + 1 + (st - lit) + (st - lit) / 8)
    (y : Wrote S g1 g2 wy wz b n d1 st la m2 d2 (st + (e - st)) false) (hy : d2 + 1 ≤ d1 + (e - st)) : EncAt S f w wz b t n d0 from0 d2 e := by
  rw [show lit + (st - lit) = st by omega] at x
  rw [show st + (e - st) = e by omega] at y
  have z := x.trans y
  have l1 := Steps.le z.way
  simp only at l1
  refine ⟨g2, m + (m1 + m2), false, z.row, z.free, h3.trans (z.kp.mono (fun k _ e => by simp at e; simp [e])), h4.trans z.only h8 (by omega), h5.more z.way z.only, rfl, by omega, by omega, by omega⟩

end Go.Proofs.Qxb6613208aDoor
