/-
  WHAT THE TWO LAWS SHARE: the calls in the form in which the laws make them.
-/
import Derived.Test.Qxb6612892aFmtLaws
import Derived.Test.Qxb6612892aFmtRead
namespace Go.Proofs.Qxb6612892aFmt
open Go.RowKit
open Go.Extern.Stop Go.Stop Go.Extern
set_option linter.unusedVariables false

theorem kp_of_below {w w' : World} (h : Below w.heap.size w w') : Kp [] w w' := ⟨h.os, h.tape, h.output, h.size, fun k hk _ => h.block k hk⟩

/-- appendDouble(nil, tag, b) -/
theorem app1 (tag : UInt8) (t : Int) (ht : t = (tag.toNat : Int)) (b : Int) (w : World) (h0 : 0 ≤ b) (h1 : b ≤ 18446744073709551615) :
    Calls Tryf.prog 6 #[.slice none 0 0, .int .u8 t, .int .u64 b] w fun e w' => ∃ v', e = .returned v' ∧ Owns w' w.heap.size v' (tag :: dbl b 8) ∧ Below w.heap.size w w' := by
  subst ht
  have := c6 w.heap.size (.slice none 0 0) [] tag b w (Nat.le_refl _) (World.ownsRow_nil _ _ _ _) (by simp) h0 h1
  exact this

/-- appendDouble(v, tag, b) -/
theorem app2 (tag : UInt8) (t : Int) (ht : t = (tag.toNat : Int)) (b : Int) (B : Nat) (v : Value) (l : List UInt8) (w : World) (hB : B ≤ w.heap.size) (hown : Owns w B v l) (hl : l.length ≤ 100) (h0 : 0 ≤ b) (h1 : b ≤ 18446744073709551615) :
    Calls Tryf.prog 6 #[v, .int .u8 t, .int .u64 b] w fun e w' => ∃ v', e = .returned v' ∧ Owns w' B v' (l ++ tag :: dbl b 8) ∧ Below B w w' := by
  subst ht
  exact c6 B v l tag b w hB hown hl h0 h1

/-- a reading that goes through -/
theorem read_some (F : Interp) (n a v : Int) (at_ en : Nat) (s : ByteArray) (w : World) (Q X : Nat) (hF : F.answers w.tape) (hle : at_ ≤ en) (hs : en ≤ s.size) (hsz : s.size ≤ 1048576) (h : rd (rs s at_ en) 0 0 = some (Q, X)) :
    Calls Tryf.prog 7 #[fld n 2 a v s at_ en] w fun e w' => e = .returned (.tuple #[.float .f64 Q, .float .f64 X, .nilIface]) ∧ Kp [] w w' := by
  refine (read_yes F n a v at_ en s w hF hle hs hsz).mono ?_
  rintro e w' ⟨q, x, ev, rfl, hk, _, ⟨h2, _⟩ | ⟨h2, rfl⟩⟩
  · rw [h] at h2; cases h2
  · rw [h] at h2
    simp only [Option.some.injEq, Prod.mk.injEq] at h2
    obtain ⟨rfl, rfl⟩ := h2
    exact ⟨rfl, hk⟩

/-- a reading that is refused -/
theorem read_none (F : Interp) (n a v : Int) (at_ en : Nat) (s : ByteArray) (w : World) (hF : F.answers w.tape) (hle : at_ ≤ en) (hs : en ≤ s.size) (hsz : s.size ≤ 1048576) (h : rd (rs s at_ en) 0 0 = none) :
    Calls Tryf.prog 7 #[fld n 2 a v s at_ en] w fun e w' => (∃ q x y, e = .returned (.tuple #[.float .f64 q, .float .f64 x, .iface 56 y])) ∧ Kp [] w w' := by
  refine (read_yes F n a v at_ en s w hF hle hs hsz).mono ?_
  rintro e w' ⟨q, x, ev, rfl, hk, _, ⟨h2, y, rfl⟩ | ⟨h2, rfl⟩⟩
  · exact ⟨⟨q, x, y, rfl⟩, hk⟩
  · rw [h] at h2; cases h2

/-- a reading, whatever comes of it -/
theorem read_any (F : Interp) (n a v : Int) (at_ en : Nat) (s : ByteArray) (w : World) (hF : F.answers w.tape) (hle : at_ ≤ en) (hs : en ≤ s.size) (hsz : s.size ≤ 1048576) :
    Calls Tryf.prog 7 #[fld n 2 a v s at_ en] w fun e w' => (∃ q x ev, e = .returned (.tuple #[.float .f64 q, .float .f64 x, ev])) ∧ Kp [] w w' := by
  refine (read_yes F n a v at_ en s w hF hle hs hsz).mono ?_
  rintro e w' ⟨q, x, ev, rfl, hk, _⟩
  exact ⟨⟨q, x, ev, rfl⟩, hk⟩

/-- a reading of a field of another wire type -/
theorem read_wire (F : Interp) (n wi a v bA bE : Int) (s : ByteArray) (w : World) (hF : F.answers w.tape) (hw : (wi != 2) = true) :
    Calls Tryf.prog 7 #[fld n wi a v s bA bE] w fun e w' => (∃ y, e = .returned (.tuple #[.float .f64 0, .float .f64 0, .iface 56 y])) ∧ Kp [] w w' := by
  refine (read_no F n wi a v bA bE s w hF hw).mono ?_
  rintro e w' ⟨q, x, ev, rfl, hk, ⟨rfl, rfl⟩, ⟨_, y, rfl⟩ | ⟨h2, _⟩⟩
  · exact ⟨⟨y, rfl⟩, hk⟩
  · cases h2

/-- a whole string read -/
theorem read_whole (F : Interp) (n a v : Int) (s : ByteArray) (w : World) (Q X : Nat) (hF : F.answers w.tape) (hsz : s.size ≤ 1048576) (h : rd s.data.toList 0 0 = some (Q, X)) :
    Calls Tryf.prog 7 #[fld n 2 a v s 0 s.size] w fun e w' => e = .returned (.tuple #[.float .f64 Q, .float .f64 X, .nilIface]) ∧ Kp [] w w' := by
  have e : rs s 0 s.size = s.data.toList := by
    unfold rs
    rw [List.drop_zero]
    exact List.take_of_length_le (by simp)
  exact read_some F n a v 0 s.size s w Q X hF (Nat.zero_le _) (Nat.le_refl _) hsz (by rw [e]; exact h)

/-- what two appendDoubles and a conversion leave, under one name -/
theorem named {w : World} {B : Nat} {v : Value} {l : List UInt8} (h : Owns w B v l) (hne : 0 < l.length) :
    ∃ t : ByteArray, (convert 24 9 v).run Tryf.prog w = .ok (.string t) w ∧ t.data.toList = l ∧ t.size = l.length :=
  ⟨⟨l.toArray⟩, conv_own h hne, by simp, by simp [ByteArray.size]⟩

end Go.Proofs.Qxb6612892aFmt
