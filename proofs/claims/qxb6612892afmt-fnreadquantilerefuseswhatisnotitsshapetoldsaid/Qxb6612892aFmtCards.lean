/-
  DERIVED. GIVEN WITH THE SEED: THE CARDS: each row of Qxb6612892aFmtRows.lean that lists a variable, with what it lists TIED to the program's text (the seventh form; the later family's looks); each row that meets fmt, with fmt's text TOLD by the authors' own Lean function (tested against real Go, not proved from fmt's source: count such statements apart). THE CARD IS WHAT COUNTS. Prove the row's statement (the work); the ties are given (Qxb6612892aFmtTie.lean); close each card by the builder's one call (the guide's Derived/Test/ToyasCard.lean, 'card_holds'). Laid BY PROGRAM, IN A SANDBOX (cutbox-door.mjs). By AI agents, Wed Nov 11 2026. No macro, syntax, notation, axiom, sorry.
-/
import Derived.Test.Qxb6612892aFmtRows
import GoSem.ClaimSeven
namespace Go.Proofs.Qxb6612892aFmt
namespace Rows

/-- THE TOLD CARD OF 'zzlaws_root_b1.FnReadQuantileReadsBackTrailingDoubles'. -/
def fnReadQuantileReadsBackTrailingDoublesCard : Claim7 := { stood := { row := fnReadQuantileReadsBackTrailingDoublesRow, standIns := [], harness := (true, "89e2d387cd47fe659b529eca785477ac45582b293f81ba1604a38420714f5ae0"), looks := false }, told := true, goes := false }
def FnReadQuantileReadsBackTrailingDoublesToldSaid : Prop := Claim7.holds Tryf.pinned (.plain (OpenSpec.ofChange fnReadQuantileReadsBackTrailingDoublesSpec)) fnReadQuantileReadsBackTrailingDoublesCard
/-- ITS FALSE NEIGHBOUR. Refute it at one input. -/
def FnReadQuantileReadsBackTrailingDoublesToldWrongFalsely : Prop := Claim7.holds Tryf.pinned (.plain (OpenSpec.ofChange fnReadQuantileReadsBackTrailingDoublesWrong)) fnReadQuantileReadsBackTrailingDoublesCard

/-- THE TOLD CARD OF 'zzlaws_root_b1.FnReadQuantileRefusesWhatIsNotItsShape'. -/
def fnReadQuantileRefusesWhatIsNotItsShapeCard : Claim7 := { stood := { row := fnReadQuantileRefusesWhatIsNotItsShapeRow, standIns := [], harness := (true, "89e2d387cd47fe659b529eca785477ac45582b293f81ba1604a38420714f5ae0"), looks := false }, told := true, goes := false }
def FnReadQuantileRefusesWhatIsNotItsShapeToldSaid : Prop := Claim7.holds Tryf.pinned (.plain (OpenSpec.ofChange fnReadQuantileRefusesWhatIsNotItsShapeSpec)) fnReadQuantileRefusesWhatIsNotItsShapeCard
/-- ITS FALSE NEIGHBOUR. Refute it at one input. -/
def FnReadQuantileRefusesWhatIsNotItsShapeToldWrongFalsely : Prop := Claim7.holds Tryf.pinned (.plain (OpenSpec.ofChange fnReadQuantileRefusesWhatIsNotItsShapeWrong)) fnReadQuantileRefusesWhatIsNotItsShapeCard
end Rows
end Go.Proofs.Qxb6612892aFmt
