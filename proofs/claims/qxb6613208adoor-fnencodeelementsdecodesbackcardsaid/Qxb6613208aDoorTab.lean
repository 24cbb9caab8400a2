/-
  THE CONTRACTS of the hash table's methods.
-/
import Derived.Test.Qxb6613208aDoorBin
namespace Go.Proofs.Qxb6613208aDoor
open Go.RowKit
set_option linter.unusedVariables false

/-- the table in block t: every entry is a position up to i, modulo 65536 -/
structure Tbl (w : World) (t i : Nat) : Prop where
  s : ∃ s : Nat, s ≤ 6 ∧ w.cell? ⟨t, 0, none⟩ = some (.int .u64 s)
  e : ∀ k, k < 16384 → ∃ p : Nat, p ≤ i ∧ w.cell? ⟨t, 1 + k, none⟩ = some (.int .u16 (p % 65536 : Nat))
  f : Free w t

theorem Tbl.kept {w w' : World} {S : List Nat} {t i : Nat} (h : Tbl w t i) (k : Kp S w w') (ht : t ∉ S) : Tbl w' t i := by
  obtain ⟨s, hs, hc⟩ := h.s
  have hlt := lt_of_cell hc
  exact ⟨⟨s, hs, (k.cell hlt ht).trans hc⟩, fun j hj => by obtain ⟨p, hp, hpc⟩ := h.e j hj; exact ⟨p, hp, (k.cell hlt ht).trans hpc⟩, h.f.kept k ht hlt⟩

theorem Tbl.up {w : World} {t i j : Nat} (h : Tbl w t i) (hij : i ≤ j) : Tbl w t j :=
  ⟨h.s, fun k hk => by obtain ⟨p, hp, hc⟩ := h.e k hk; exact ⟨p, by omega, hc⟩, h.f⟩

theorem Tbl.lt {w : World} {t i : Nat} (h : Tbl w t i) : t < w.heap.size := by obtain ⟨s, _, hc⟩ := h.s; exact lt_of_cell hc

theorem Tbl.set {w : World} {t i : Nat} (h : Tbl w t i) (k p : Nat) (hp : p ≤ i) : Tbl (w.setCell ⟨t, 1 + k, none⟩ (.int .u16 (p % 65536 : Nat))) t i := by
  refine ⟨?_, fun j hj => ?_, h.f.set _ _⟩
  · obtain ⟨s, hs, hc⟩ := h.s
    exact ⟨s, hs, by rw [World.cell?_setCell_other _ _ _ _ (by intro e; have := congrArg Addr.off e; simp at this)]; exact hc⟩
  · obtain ⟨q, hq, hc⟩ := h.e j hj
    by_cases e : j = k
    · subst e
      exact ⟨p, hp, World.cell?_setCell_same _ _ _ hc⟩
    · exact ⟨q, hq, by rw [World.cell?_setCell_other _ _ _ _ (by intro e2; have := congrArg Addr.off e2; simp at this; omega)]; exact hc⟩

set_option maxHeartbeats 4000000 in
set_option maxRecDepth 100000 in
/-- hash -/
theorem c20 (t i u : Nat) (w : World) (hT : Tbl w t i) :
    Calls Tryd.prog 20 #[.pointer (some ⟨t, 0, none⟩), .int .u32 u] w fun e w' => (∃ h : Nat, h < 16384 ∧ e = .returned (.int .u32 h)) ∧ w' = w := by
  obtain ⟨s, hs, hc⟩ := hT.s
  have b0 : bits BinOp.and IntKind.u64 0 31 = 0 := by decide
  have b1 : bits BinOp.and IntKind.u64 1 31 = 1 := by decide
  have b2 : bits BinOp.and IntKind.u64 2 31 = 2 := by decide
  have b3 : bits BinOp.and IntKind.u64 3 31 = 3 := by decide
  have b4 : bits BinOp.and IntKind.u64 4 31 = 4 := by decide
  have b5 : bits BinOp.and IntKind.u64 5 31 = 5 := by decide
  have b6 : bits BinOp.and IntKind.u64 6 31 = 6 := by decide
  go_enter Tryd.func20, Tryd.ntmps20
  have : s = 0 ∨ s = 1 ∨ s = 2 ∨ s = 3 ∨ s = 4 ∨ s = 5 ∨ s = 6 := by omega
  rcases this with rfl | rfl | rfl | rfl | rfl | rfl | rfl
  all_goals
    go_wp2
    go_ret
    refine ⟨⟨_, ?_, congrArg Ending.returned (congrArg (Value.int IntKind.u32) (Int.toNat_of_nonneg ?_).symm)⟩, rfl⟩
    all_goals omega

end Go.Proofs.Qxb6613208aDoor
