/-
  THE BUILTIN copy, into a row that is known cell by cell.
-/
import Derived.Test.Qxb6613208aDoorChecked
import Derived.Test.Qxb6613208aDoorMem
import Derived.Lib.Walk
import Derived.Laws.IdiomCopy
import Derived.Deep.RegionLaw
namespace Go.Proofs.Qxb6613208aDoor
open Go.RowKit
set_option linter.unusedVariables false

theorem wpList_copy_cells {P : Program} {w : World} {ops : Array Oper} {rest : List Oper} {o : Oper} {a : Act} {Q : Exit → Act → World → Prop} (hgd : o.guard = none) (d s : Operand) (dT sT : TypeId)
    (ho : o.op = .call { callee := .builtin .copy, args := #[d, s], argTypes := #[dT, sT] }) (elem : TypeId) (hu : P.underlying dT = some (.slice elem)) (hsz : (P.info? elem).map (·.size) = some 1)
    (g off dLen dCap : Nat) (ad : Addr) (sLen sCap : Nat) (hd : a.eval d = .slice (some ⟨g, off, none⟩) dLen dCap) (hs : a.eval s = .slice (some ad) sLen sCap)
    (cs : List Value) (hn : cs.length = Nat.min sLen dLen)
    (hsrc : ∀ j v, cs[j]? = some v → w.cell? (ad.add j) = some v) (hc : ∀ j, j < cs.length → (w.cell? ⟨g, off + j, none⟩).isSome = true) (hf : ∀ j, j < cs.length → w.frozen? ⟨g, off + j, none⟩ = false) (h1 : ∀ v ∈ cs, v.oneCell' = true)
    (h : wpList P ops Q rest (a.put o.dst (goInt cs.length)) (w.setCells g off cs)) : wpList P ops Q (o :: rest) a w := by
  refine wpList_plain hgd fun K hK => ?_
  have hrun := run_copy_cells (P := P) w dT sT o.type elem g off dLen dCap ad sLen sCap cs hu hsz hn hsrc hc hf h1
  unfold Oper.wp
  simp [execOp, ho, resolve, invoke, builtin, hd, hs, hrun, Result.andThen]
  exact hK _ _ h

/-- l bytes of S, from p on, as cells -/
def lits (S : Nat → Nat) (p l : Nat) : List Value := (List.range l).map fun k => .int .u8 (S (p + k) : Nat)

theorem lits_len (S : Nat → Nat) (p l : Nat) : (lits S p l).length = l := by simp [lits]

theorem lits_at (S : Nat → Nat) (p l j : Nat) (v : Value) (h : (lits S p l)[j]? = some v) : j < l ∧ v = .int .u8 (S (p + j) : Nat) := by
  have hj : j < l := by
    have := (List.getElem?_eq_some_iff.1 h).1
    simpa [lits] using this
  refine ⟨hj, ?_⟩
  simp [lits, hj] at h
  exact h.symm

theorem lits_one (S : Nat → Nat) (p l : Nat) : ∀ v ∈ lits S p l, v.oneCell' = true := by
  intro v hv
  simp only [lits, List.mem_map] at hv
  obtain ⟨k, _, rfl⟩ := hv
  rfl

/-- f, with l bytes of S from p on laid at o -/
def blit (f : Nat → Nat) (o l : Nat) (S : Nat → Nat) (p : Nat) : Nat → Nat := fun k => if o ≤ k ∧ k < o + l then S (p + (k - o)) else f k

theorem blit_in (f : Nat → Nat) (o l : Nat) (S : Nat → Nat) (p k : Nat) (h : k < l) : blit f o l S p (o + k) = S (p + k) := by
  unfold blit
  rw [if_pos ⟨by omega, by omega⟩, show o + k - o = k by omega]

theorem blit_out (f : Nat → Nat) (o l : Nat) (S : Nat → Nat) (p k : Nat) (h : k < o ∨ o + l ≤ k) : blit f o l S p k = f k := by
  unfold blit
  rw [if_neg (by omega)]

theorem Row.laid {w : World} {b n : Nat} {f : Nat → Nat} (h : Row w b n f) (o l : Nat) (S : Nat → Nat) (p : Nat) (hS : ∀ k, S k < 256) (hfit : o + l ≤ n) : Row (w.setCells b o (lits S p l)) b n (blit f o l S p) := by
  have hc : ∀ j, j < (lits S p l).length → (w.cell? ⟨b, o + j, none⟩).isSome = true := fun j hj => by
    rw [lits_len] at hj
    rw [h.c (o + j) (by omega)]
    rfl
  refine ⟨fun k hk => ?_, fun k => ?_⟩
  · by_cases e : o ≤ k ∧ k < o + l
    · obtain ⟨j, rfl⟩ : ∃ j, k = o + j := ⟨k - o, by omega⟩
      have hj : j < (lits S p l).length := by rw [lits_len]; omega
      rw [World.cell?_setCells_in b (lits S p l) o w hc j hj, blit_in _ _ _ _ _ _ (by omega)]
      exact congrArg some (lits_at S p l j _ (List.getElem?_eq_getElem hj)).2
    · rw [World.cell?_setCells_out b (lits S p l) o w _ (fun _ _ => by rw [lits_len]; simp only; omega), blit_out _ _ _ _ _ _ (by omega)]
      exact h.c k hk
  · unfold blit; split
    · exact hS _
    · exact h.r k

theorem Free.laid {w : World} {b : Nat} (h : Free w b) (c o : Nat) (vs : List Value) : Free (w.setCells c o vs) b := fun k => by rw [World.frozen?_setCells]; exact h k

theorem Kp.setCells {S : List Nat} {a : World} {b : Nat} : ∀ (vs : List Value) (o : Nat) {w : World}, Kp S a w → (b ∈ S ∨ a.heap.size ≤ b) → Kp S a (w.setCells b o vs)
  | [], _, w, h, _ => h
  | v :: r, o, w, h, hb => by
    rw [World.setCells]
    exact Kp.setCells r (o + 1) (h.setCell hb v) hb

end Go.Proofs.Qxb6613208aDoor
