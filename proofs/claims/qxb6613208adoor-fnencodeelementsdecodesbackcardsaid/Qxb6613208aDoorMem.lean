/-
  WHAT A CALL LEAVES OF THE WORLD: all blocks but the listed ones are as they were.
-/
import Derived.WalkKit
import Derived.WalkSpells
import Derived.Deep.QuietTactic
namespace Go.Proofs.Qxb6613208aDoor
open Go.RowKit

structure Kp (S : List Nat) (w w' : World) : Prop where
  os : w'.os = w.os
  tape : w'.tape = w.tape
  output : w'.output = w.output
  size : w.heap.size ≤ w'.heap.size
  block : ∀ k, k < w.heap.size → k ∉ S → w'.heap[k]? = w.heap[k]?

theorem Kp.refl (S : List Nat) (w : World) : Kp S w w := ⟨rfl, rfl, rfl, Nat.le_refl _, fun _ _ _ => rfl⟩

theorem Kp.trans {S : List Nat} {a b c : World} (h : Kp S a b) (k : Kp S b c) : Kp S a c :=
  ⟨k.os.trans h.os, k.tape.trans h.tape, k.output.trans h.output, Nat.le_trans h.size k.size,
    fun i hi hs => (k.block i (Nat.lt_of_lt_of_le hi h.size) hs).trans (h.block i hi hs)⟩

theorem Kp.mono {S T : List Nat} {w w' : World} (h : Kp S w w') (hs : ∀ k, k < w.heap.size → k ∈ S → k ∈ T) : Kp T w w' :=
  ⟨h.os, h.tape, h.output, h.size, fun k hk ht => h.block k hk (fun e => ht (hs k hk e))⟩

theorem Kp.any {T : List Nat} {w w' : World} (h : Kp [] w w') : Kp T w w' := h.mono (fun _ _ e => by cases e)

theorem Kp.drew {S : List Nat} {a w : World} (h : Kp S a w) : Kp S a w.drew := ⟨h.os, h.tape, h.output, h.size, h.block⟩

theorem Kp.drewN {S : List Nat} {a w : World} (h : Kp S a w) (n : Nat) : Kp S a (w.drewN n) := ⟨h.os, h.tape, h.output, h.size, h.block⟩

theorem Kp.alloc {S : List Nat} {a w : World} (h : Kp S a w) (o : Obj) : Kp S a (w.alloc o) :=
  h.trans ⟨rfl, rfl, rfl, by simp, fun k hk _ => Below.heap_alloc _ _ _ hk⟩

theorem Kp.setCell {S : List Nat} {a w : World} (h : Kp S a w) {p : Addr} (hp : p.block ∈ S ∨ a.heap.size ≤ p.block) (u : Value) : Kp S a (w.setCell p u) :=
  ⟨h.os, h.tape, h.output, by simpa [World.setCell] using h.size, fun k hk hs => by
    rw [Below.heap_setCell _ _ _ _ (by rintro rfl; rcases hp with e | e; exact hs e; omega)]
    exact h.block k hk hs⟩

theorem Kp.cell {S : List Nat} {w w' : World} (h : Kp S w w') {b o : Nat} (hb : b < w.heap.size) (hs : b ∉ S) : w'.cell? ⟨b, o, none⟩ = w.cell? ⟨b, o, none⟩ :=
  World.cell?_of_block (w := w) (h.block b hb hs)

theorem Kp.frozen {S : List Nat} {w w' : World} (h : Kp S w w') {b o : Nat} (hb : b < w.heap.size) (hs : b ∉ S) : w'.frozen? ⟨b, o, none⟩ = w.frozen? ⟨b, o, none⟩ :=
  World.frozen?_of_block (w := w) (h.block b hb hs)

theorem Kp.below {w w' : World} (h : Kp [] w w') : Below w.heap.size w w' := ⟨h.os, h.tape, h.output, h.size, fun k hk => h.block k hk (by simp)⟩

/-- a listed block that is new is no matter -/
theorem Kp.new {S : List Nat} {b : Nat} {w w' : World} (h : Kp (b :: S) w w') (hb : w.heap.size ≤ b) : Kp S w w' :=
  h.mono (fun k hk e => by rcases List.mem_cons.1 e with e | e; omega; exact e)

theorem lt_of_cell {w : World} {b o : Nat} {v : Value} (h : w.cell? ⟨b, o, none⟩ = some v) : b < w.heap.size := World.block_lt_of_cell? w ⟨b, o, none⟩ h

/-- the bytes f 0 .. f (n - 1) lie in block b, from its start on -/
structure Row (w : World) (b n : Nat) (f : Nat → Nat) : Prop where
  c : ∀ k, k < n → w.cell? ⟨b, k, none⟩ = some (.int .u8 (f k))
  r : ∀ k, f k < 256

/-- no string shares block b's cells -/
def Free (w : World) (b : Nat) : Prop := ∀ k, w.frozen? ⟨b, k, none⟩ = false

theorem Row.kept {w w' : World} {S : List Nat} {b n : Nat} {f : Nat → Nat} (h : Row w b n f) (k : Kp S w w') (hb : b ∉ S) : Row w' b n f :=
  ⟨fun i hi => (k.cell (lt_of_cell (h.c i hi)) hb).trans (h.c i hi), h.r⟩

theorem Free.kept {w w' : World} {S : List Nat} {b : Nat} (h : Free w b) (k : Kp S w w') (hb : b ∉ S) (hs : b < w.heap.size) : Free w' b :=
  fun i => (k.frozen hs hb).trans (h i)

/-- f, with v at o -/
def upd (f : Nat → Nat) (o v : Nat) : Nat → Nat := fun k => if k = o then v else f k

theorem upd_same (f : Nat → Nat) (o v : Nat) : upd f o v o = v := by simp [upd]

theorem upd_other (f : Nat → Nat) (o v k : Nat) (h : k ≠ o) : upd f o v k = f k := by simp [upd, h]

theorem Row.set {w : World} {b n : Nat} {f : Nat → Nat} (h : Row w b n f) (o v : Nat) (hv : v < 256) : Row (w.setCell ⟨b, o, none⟩ (.int .u8 v)) b n (upd f o v) := by
  refine ⟨fun k hk => ?_, fun k => ?_⟩
  · by_cases e : k = o
    · subst e
      rw [upd_same]
      exact World.cell?_setCell_same _ _ _ (h.c k hk)
    · rw [upd_other _ _ _ _ e, World.cell?_setCell_other _ _ _ _ (by intro e2; exact e (congrArg Addr.off e2).symm)]
      exact h.c k hk
  · unfold upd; split
    · exact hv
    · exact h.r k

theorem Row.setOther {w : World} {b n c o : Nat} {f : Nat → Nat} {v : Value} (h : Row w b n f) (hc : c ≠ b) : Row (w.setCell ⟨c, o, none⟩ v) b n f :=
  ⟨fun k hk => by rw [World.cell?_setCell_other _ _ _ _ (by intro e2; exact hc (congrArg Addr.block e2))]; exact h.c k hk, h.r⟩

theorem Free.set {w : World} {b : Nat} (h : Free w b) (p : Addr) (v : Value) : Free (w.setCell p v) b := fun k => by rw [World.frozen?_setCell]; exact h k

/-- four bytes, the least first -/
def le4 (f : Nat → Nat) (i : Nat) : Nat := f i + f (i + 1) * 256 + f (i + 2) * 65536 + f (i + 3) * 16777216

theorem le4_lt (f : Nat → Nat) (i : Nat) (h : ∀ k, f k < 256) : le4 f i < 4294967296 := by
  have := h i; have := h (i + 1); have := h (i + 2); have := h (i + 3); unfold le4; omega

theorem le4_eq (f : Nat → Nat) (i j : Nat) (h : ∀ k, f k < 256) (e : le4 f i = le4 f j) : ∀ k, k < 4 → f (i + k) = f (j + k) := by
  have a0 := h i; have a1 := h (i + 1); have a2 := h (i + 2); have a3 := h (i + 3)
  have b0 := h j; have b1 := h (j + 1); have b2 := h (j + 2); have b3 := h (j + 3)
  unfold le4 at e
  intro k hk
  match k, hk with
  | 0, _ => simp only [Nat.add_zero]; omega
  | 1, _ => omega
  | 2, _ => omega
  | 3, _ => omega

/-- eight bytes, the least first -/
def le8 (f : Nat → Nat) (i : Nat) : Nat := le4 f i + le4 f (i + 4) * 4294967296

end Go.Proofs.Qxb6613208aDoor
