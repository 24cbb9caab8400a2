/-
  WHAT A CALL LEAVES OF THE WORLD: all blocks but the listed ones are as they were.
-/
import Derived.WalkKit
import Derived.WalkSpells
import Derived.Deep.QuietTactic
namespace Go.Proofs.Qxb6613133a
open Go.RowKit

structure Kp (S : List Nat) (w w' : World) : Prop where
  os : w'.os = w.os
  tape : w'.tape = w.tape
  output : w'.output = w.output
  size : w.heap.size ≤ w'.heap.size
  block : ∀ k, k < w.heap.size → k ∉ S → w'.heap[k]? = w.heap[k]?

theorem Kp.refl (S : List Nat) (w : World) : Kp S w w := ⟨rfl, rfl, rfl, Nat.le_refl _, fun _ _ _ => rfl⟩

theorem Kp.trans {S : List Nat} {a b c : World} (h : Kp S a b) (k : Kp S b c) : Kp S a c :=
  ⟨k.os.trans h.os, k.tape.trans h.tape, k.output.trans h.output, Nat.le_trans h.size k.size,
    fun i hi hs => (k.block i (Nat.lt_of_lt_of_le hi h.size) hs).trans (h.block i hi hs)⟩

theorem Kp.mono {S T : List Nat} {w w' : World} (h : Kp S w w') (hs : ∀ k, k < w.heap.size → k ∈ S → k ∈ T) : Kp T w w' :=
  ⟨h.os, h.tape, h.output, h.size, fun k hk ht => h.block k hk (fun e => ht (hs k hk e))⟩

theorem Kp.any {T : List Nat} {w w' : World} (h : Kp [] w w') : Kp T w w' := h.mono (fun _ _ e => by cases e)

theorem Kp.drew {S : List Nat} {a w : World} (h : Kp S a w) : Kp S a w.drew := ⟨h.os, h.tape, h.output, h.size, h.block⟩

theorem Kp.drewN {S : List Nat} {a w : World} (h : Kp S a w) (n : Nat) : Kp S a (w.drewN n) := ⟨h.os, h.tape, h.output, h.size, h.block⟩

theorem Kp.alloc {S : List Nat} {a w : World} (h : Kp S a w) (o : Obj) : Kp S a (w.alloc o) :=
  h.trans ⟨rfl, rfl, rfl, by simp, fun k hk _ => Below.heap_alloc _ _ _ hk⟩

theorem Kp.setCell {S : List Nat} {a w : World} (h : Kp S a w) {p : Addr} (hp : p.block ∈ S ∨ a.heap.size ≤ p.block) (u : Value) : Kp S a (w.setCell p u) :=
  ⟨h.os, h.tape, h.output, by simpa [World.setCell] using h.size, fun k hk hs => by
    rw [Below.heap_setCell _ _ _ _ (by rintro rfl; rcases hp with e | e; exact hs e; omega)]
    exact h.block k hk hs⟩

theorem Kp.cell {S : List Nat} {w w' : World} (h : Kp S w w') {b o : Nat} (hb : b < w.heap.size) (hs : b ∉ S) : w'.cell? ⟨b, o, none⟩ = w.cell? ⟨b, o, none⟩ :=
  World.cell?_of_block (w := w) (h.block b hb hs)

theorem Kp.frozen {S : List Nat} {w w' : World} (h : Kp S w w') {b o : Nat} (hb : b < w.heap.size) (hs : b ∉ S) : w'.frozen? ⟨b, o, none⟩ = w.frozen? ⟨b, o, none⟩ :=
  World.frozen?_of_block (w := w) (h.block b hb hs)

theorem Kp.below {w w' : World} (h : Kp [] w w') : Below w.heap.size w w' := ⟨h.os, h.tape, h.output, h.size, fun k hk => h.block k hk (by simp)⟩

/-- a listed block that is new is no matter -/
theorem Kp.new {S : List Nat} {b : Nat} {w w' : World} (h : Kp (b :: S) w w') (hb : w.heap.size ≤ b) : Kp S w w' :=
  h.mono (fun k hk e => by rcases List.mem_cons.1 e with e | e; omega; exact e)

theorem lt_of_cell {w : World} {b o : Nat} {v : Value} (h : w.cell? ⟨b, o, none⟩ = some v) : b < w.heap.size := World.block_lt_of_cell? w ⟨b, o, none⟩ h

end Go.Proofs.Qxb6613133a
