/-
  DERIVED. GIVEN WITH THE SEED: THE CARDS: each row of Qxb6613208aDoorRows.lean that lists a variable, with what it lists TIED to the program's text (the seventh form; the later family's looks); each row that meets fmt, with fmt's text TOLD by the authors' own Lean function (tested against real Go, not proved from fmt's source: count such statements apart). THE CARD IS WHAT COUNTS. Prove the row's statement (the work); the ties are given (Qxb6613208aDoorTie.lean); close each card by the builder's one call (the guide's Derived/Test/ToyasCard.lean, 'card_holds'). Laid BY PROGRAM, IN A SANDBOX (cutbox-door.mjs). By AI agents, Wed Nov 11 2026. No macro, syntax, notation, axiom, sorry.
-/
import Derived.Test.Qxb6613208aDoorRows
import GoSem.ClaimSeven
namespace Go.Proofs.Qxb6613208aDoor
namespace Rows

/-- THE TIED CARD OF 'zzlaws_root_b1.FnEncodeElementsDecodesBack'. -/
def fnEncodeElementsDecodesBackCard : Claim7 := { stood := { row := fnEncodeElementsDecodesBackRow, standIns := [], harness := (true, "a963823c6399a5850d57fa4bec55cb8bc1143d8653b5f6cee0d7d1e81bc90378"), looks := false }, kinds := [], alts := [], laidByText := true, laidKinds := [.data], laidTests := true, laidLooks := .later }
def FnEncodeElementsDecodesBackCardSaid : Prop := Claim7.holds Tryd.pinned (.plain (OpenSpec.ofChange fnEncodeElementsDecodesBackSpec)) fnEncodeElementsDecodesBackCard

/-- THE TIED CARD OF 'zzlaws_root_b1.FnEncodeElementsShortCopiesAndBoundedSize'. -/
def fnEncodeElementsShortCopiesAndBoundedSizeCard : Claim7 := { stood := { row := fnEncodeElementsShortCopiesAndBoundedSizeRow, standIns := [], harness := (true, "a963823c6399a5850d57fa4bec55cb8bc1143d8653b5f6cee0d7d1e81bc90378"), looks := false }, kinds := [], alts := [], laidByText := true, laidKinds := [.data], laidTests := true, laidLooks := .later }
def FnEncodeElementsShortCopiesAndBoundedSizeCardSaid : Prop := Claim7.holds Tryd.pinned (.plain (OpenSpec.ofChange fnEncodeElementsShortCopiesAndBoundedSizeSpec)) fnEncodeElementsShortCopiesAndBoundedSizeCard
end Rows
end Go.Proofs.Qxb6613208aDoor
