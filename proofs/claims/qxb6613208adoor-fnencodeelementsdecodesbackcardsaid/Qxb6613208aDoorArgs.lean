/-
  THE ARGUMENTS: what came in, in the walks' words; the copy of src.
-/
import Derived.Test.Qxb6613208aDoorAids
import Derived.Test.Qxb6613208aDoorRead2
import Derived.ProofKit
namespace Go.Proofs.Qxb6613208aDoor
open Go.RowKit
set_option linter.unusedVariables false

/-- the numbers of a row, as bytes -/
def byteAt (zs : List Int) (k : Nat) : Nat := (zs.getD k 0).toNat

theorem byte_range {zs : List Int} (h : ∀ n ∈ zs, (Lit.int .u8 n).wf = true) (k : Nat) : 0 ≤ zs.getD k 0 ∧ zs.getD k 0 ≤ 255 := by
  by_cases hk : k < zs.length
  · have e : zs.getD k 0 = zs[k] := by simp [hk]
    rw [e]
    have := h zs[k] (List.getElem_mem hk)
    have e1 : IntKind.u8.min = 0 := rfl
    have e2 : IntKind.u8.max = 255 := rfl
    simpa [Lit.wf, e1, e2] using this
  · have e : zs.getD k 0 = 0 := by simp [List.getElem?_eq_none (Nat.le_of_not_lt hk)]
    rw [e]; omega

theorem byteAt_lt {zs : List Int} (h : ∀ n ∈ zs, (Lit.int .u8 n).wf = true) (k : Nat) : byteAt zs k < 256 := by
  have := byte_range h k
  unfold byteAt; omega

/-- a slice that came in and has an element -/
theorem came {w : World} {a : Option Addr} {len cap : Nat} {zs : List Int} (h : IsRow .u8 w a len cap zs) (hl : 0 < len) :
    ∃ b o : Nat, a = some ⟨b, o, none⟩ ∧ len ≤ cap ∧ RowO w b o len (byteAt zs) ∧ (∀ k, byteAt zs k < 256) := by
  rcases h with ⟨_, h, _⟩ | ⟨x, rfl, h1, h2, h3, h4, h5⟩
  · omega
  · obtain ⟨b, o, spot⟩ := x
    have hspot : spot = none := by simpa [Addr.add] using World.cell?_spot (h4 0 (by omega))
    subst hspot
    refine ⟨b, o, rfl, h1, fun k hk => ?_, byteAt_lt h5⟩
    have := h4 k (by omega)
    rw [show (⟨b, o, none⟩ : Addr).add k = ⟨b, o + k, none⟩ by simp [Addr.add]] at this
    rw [this]
    have := byte_range h5 k
    unfold byteAt
    rw [Int.toNat_of_nonneg this.1]

/-- src's copy -/
theorem copied {w wz : World} {x : Addr} {nb n c cap : Nat} {zs : List Int} (hx : IsRow .u8 w (some x) n cap zs) (hR : Row wz nb n (fun _ => 0)) (hF : Free wz nb) (hK : Kp [] w wz) (hnb : w.heap.size ≤ nb) :
    ∃ wy, (Builtin.copy_ #[22, 22] 3 #[.slice (some ⟨nb, 0, none⟩) n n, .slice (some x) n c]).run Tryd.prog wz = .ok (goInt n) wy ∧ Row wy nb n (byteAt zs) ∧ Kp [] w wy ∧ wz.heap.size ≤ wy.heap.size := by
  rcases hx with ⟨h, _⟩ | ⟨y, hy, h1, h2, h3, h4, h5⟩
  · cases h
  · cases hy
    have hb := byteAt_lt h5
    have hrun := run_copy_cells (P := Tryd.prog) wz 22 22 3 5 nb 0 n n x n c (lits (byteAt zs) 0 n) Tryd.underlying22 (by kernel_rfl)
      (by rw [lits_len]; exact (Nat.min_self n).symm) (fun j u hj => by
        obtain ⟨j1, rfl⟩ := lits_at _ _ _ _ _ hj
        have hc := h4 j (by omega)
        have hs := World.cell?_spot hc
        have hlt := World.block_lt_of_cell? w _ hc
        have e : x.add j = ⟨(x.add j).block, (x.add j).off, none⟩ := by
          rw [← hs]
        rw [e] at hc ⊢
        rw [hK.cell hlt (by simp), hc]
        have := byte_range h5 j
        simp only [Nat.zero_add, byteAt]
        rw [Int.toNat_of_nonneg this.1])
      (fun j hj => by rw [lits_len] at hj; rw [Nat.zero_add, hR.c j hj]; rfl) (fun j hj => hF _) (lits_one _ _ _)
    rw [lits_len] at hrun
    refine ⟨_, hrun, ?_, Kp.setCells _ _ hK (Or.inr hnb), (Kp.setCells _ _ (Kp.refl [nb] wz) (Or.inl (by simp))).size⟩
    have := hR.laid 0 n (byteAt zs) 0 hb (by omega)
    refine ⟨fun k hk => ?_, hb⟩
    rw [this.c k hk]
    have e := blit_in (fun _ => 0) 0 n (byteAt zs) 0 k hk
    rw [Nat.zero_add] at e
    rw [e]

theorem run_neq_nil (w : World) (a : Option Addr) (n c : Nat) : (binOp .neq 22 (.slice a n c) (.slice none 0 0)).run Tryd.prog w = .ok (.bool (!a.isNone)) w := by
  simp only [binOp]
  simp [Op.equal, Op.maxDepth, Lib.run_equalIn_slice_nil w 9999 22 5 a n c 0 0 Tryd.underlying22]

theorem and3_u8 : ∀ t : Fin 256, bits .and .u8 (t.val : Int) 3 = ((t.val % 4 : Nat) : Int) := by decide +kernel

end Go.Proofs.Qxb6613208aDoor
