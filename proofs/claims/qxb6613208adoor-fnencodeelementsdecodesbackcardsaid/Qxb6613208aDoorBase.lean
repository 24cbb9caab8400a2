/-
  WHAT THE WALKS ARE TOLD OF THE ARGUMENTS AND OF THE LISTED TABLE.
-/
import Derived.Test.Qxb6613208aDoorRows
import Derived.Lib.LaidTab
import Derived.WalkKit
namespace Go.Proofs.Qxb6613208aDoor
open Go.RowKit
set_option linter.unusedVariables false

/-- what the walk is told of a slice of integers that came in: nil; or a row of 'cap' cells, the numbers 'zs' -/
def IsRow (k : IntKind) (w : World) (a : Option Addr) (len cap : Nat) (zs : List Int) : Prop :=
  (a = none ∧ len = 0 ∧ cap = 0 ∧ zs = []) ∨
  ∃ x, a = some x ∧ len ≤ cap ∧ cap ≤ maxLen ∧ zs.length = cap ∧ (∀ i, i < zs.length → w.cell? (x.add i) = some (.int k (zs.getD i 0))) ∧ ∀ n ∈ zs, (Lit.int k n).wf = true

/-- the de Bruijn table of math/bits -/
def debruijn : List Int := [0, 1, 56, 2, 57, 49, 28, 3, 61, 58, 42, 50, 38, 29, 17, 4, 62, 47, 59, 36, 45, 43, 51, 22, 53, 39, 33, 30, 24, 18, 12, 5, 63, 55, 48, 27, 60, 41, 37, 16, 46, 35, 44, 21, 52, 32, 23, 11, 54, 26, 40, 15, 34, 20, 31, 10, 25, 14, 19, 9, 13, 8, 7, 6]

theorem gTab : Tryd.prog.globalNamed "math/bits.deBruijn64tab" = some 1 := by kernel_rfl

/-- the listed table lies in memory as its initialiser lays it -/
def Tab (w : World) : Prop := ∀ i, i < 64 → w.cell? ⟨1, i, none⟩ = some (.int .u8 (debruijn.getD i 0))

theorem tab_of_laid {W : World} (h : laidMet Tryd.prog [("math/bits.deBruijn64tab", Rows.laid_math_bits_deBruijn64tab)] W) : Tab W := by
  have h' : laidMet Tryd.prog [("math/bits.deBruijn64tab", Lib.tabData .u8 debruijn)] W := h
  have hT := Lib.tabIs_of_head gTab (t := 56) (by kernel_rfl) Tryd.underlying56 Tryd.underlying5 (by kernel_rfl) (by kernel_rfl) h'
  exact fun i hi => hT.cell gTab i hi

end Go.Proofs.Qxb6613208aDoor
