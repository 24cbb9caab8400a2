/-
  No cell of these rows narrows 'for every input' (looked for: loops, veiled, ifaces, maps, wideKeys, modest, calm, conditions, laid).
  DERIVED. THE GIVEN ROWS OF THIS SEAT. 2 by the template 'for every input the law returns true; each argument reads behind the call as it read before'; 0 by the template 'total and deterministic' (their statements: Qxb6612892aFmtTotals.lean).
  GIVEN WITH THE SEED: the statements are not yours to turn. If you find one false, say at which input.
  Laid BY PROGRAM, IN A SANDBOX (cutbox-rows.mjs): the forced cells as the released guide's own fill.sh prints them over the translation 0cb485579a10126a… (all of the seat's roots in one cut). By AI agents, Wed Nov 11 2026. No macro, syntax, notation, axiom, sorry.
-/
import Derived.Test.Qxb6612892aFmtChecked
import GoSem.Claim
import GoSem.ClaimJoined
import GoSem.ClaimMapViews
import Derived.JoinedTies
import Derived.KernelRfl
namespace Go.Proofs.Qxb6612892aFmt
/- THE CELL 'sum', in the pinned program and in every row, IS THE sha256 OF THE DUMP (.gsa) THAT Qxb6612892aFmtProg.lean LOADS. Nothing in Lean hashes anything: it is a label: what it is worth is what the hold of that sum in a sandbox is worth. -/
noncomputable def Tryf.pinned : Pinned := { name := "qxb6612892afmt", sum := "0cb485579a10126a02ed2ee67c28ba830e0ab69d2e4fe10fbf57b7e70282fc79", checked := Tryf.checked }
namespace Rows
def none {H : Type} : Left H := { results := [], args := [] }

/-- 'zzlaws_root_b1.FnReadQuantileReadsBackTrailingDoubles': WHATEVER THE INPUT: true; the input reads as it did. -/
def fnReadQuantileReadsBackTrailingDoublesSpec : ChangeSpec := { name := "fnReadQuantileReadsBackTrailingDoubles", fn := fun _ => fun
  | [d1, d2, d3, d4, d5, d6, d7, d8] => { results := [.lit (.bool true)], args := [d1, d2, d3, d4, d5, d6, d7, d8] }
  | _ => none }
def fnReadQuantileReadsBackTrailingDoublesRow : OpenClaim := { program := "qxb6612892afmt", sum := "0cb485579a10126a02ed2ee67c28ba830e0ab69d2e4fe10fbf57b7e70282fc79", func := "example.com/labelwise/labelwise/zzlaws_root_b1.FnReadQuantileReadsBackTrailingDoubles", spec := "fnReadQuantileReadsBackTrailingDoubles", stops := ["fmt.Sprintf"], inPlace := ["fmt.Sprintf", "math.Float64frombits", "math.Float64bits"], unfollowed := true, recurses := true, apart := false }
/-- NO THEOREM (fmt's text is open here; it may be false): for the released tool's asking of the row's closed facts alone. THE STATEMENT IS 'FnReadQuantileReadsBackTrailingDoublesToldSaid' (Qxb6612892aFmtCards.lean). -/
def FnReadQuantileReadsBackTrailingDoublesFormAsk : Prop := fnReadQuantileReadsBackTrailingDoublesRow.holds Tryf.pinned (OpenSpec.ofChange fnReadQuantileReadsBackTrailingDoublesSpec)

/-- ITS FALSE NEIGHBOUR: 'it returns false'. Refute it at one input. -/
def fnReadQuantileReadsBackTrailingDoublesWrong : ChangeSpec := { name := "fnReadQuantileReadsBackTrailingDoubles", fn := fun _ => fun
  | [d1, d2, d3, d4, d5, d6, d7, d8] => { results := [.lit (.bool false)], args := [d1, d2, d3, d4, d5, d6, d7, d8] }
  | _ => none }
def FnReadQuantileReadsBackTrailingDoublesWrongFormAsk : Prop := fnReadQuantileReadsBackTrailingDoublesRow.holds Tryf.pinned (OpenSpec.ofChange fnReadQuantileReadsBackTrailingDoublesWrong)

/-- 'zzlaws_root_b1.FnReadQuantileRefusesWhatIsNotItsShape': WHATEVER THE INPUT: true; the input reads as it did. -/
def fnReadQuantileRefusesWhatIsNotItsShapeSpec : ChangeSpec := { name := "fnReadQuantileRefusesWhatIsNotItsShape", fn := fun _ => fun
  | [d1, d2, d3, d4, d5, d6, d7, d8] => { results := [.lit (.bool true)], args := [d1, d2, d3, d4, d5, d6, d7, d8] }
  | _ => none }
def fnReadQuantileRefusesWhatIsNotItsShapeRow : OpenClaim := { program := "qxb6612892afmt", sum := "0cb485579a10126a02ed2ee67c28ba830e0ab69d2e4fe10fbf57b7e70282fc79", func := "example.com/labelwise/labelwise/zzlaws_root_b1.FnReadQuantileRefusesWhatIsNotItsShape", spec := "fnReadQuantileRefusesWhatIsNotItsShape", stops := ["fmt.Sprintf"], inPlace := ["fmt.Sprintf", "math.Float64frombits", "math.Float64bits"], unfollowed := true, recurses := true, apart := false }
/-- NO THEOREM (fmt's text is open here; it may be false): for the released tool's asking of the row's closed facts alone. THE STATEMENT IS 'FnReadQuantileRefusesWhatIsNotItsShapeToldSaid' (Qxb6612892aFmtCards.lean). -/
def FnReadQuantileRefusesWhatIsNotItsShapeFormAsk : Prop := fnReadQuantileRefusesWhatIsNotItsShapeRow.holds Tryf.pinned (OpenSpec.ofChange fnReadQuantileRefusesWhatIsNotItsShapeSpec)

/-- ITS FALSE NEIGHBOUR: 'it returns false'. Refute it at one input. -/
def fnReadQuantileRefusesWhatIsNotItsShapeWrong : ChangeSpec := { name := "fnReadQuantileRefusesWhatIsNotItsShape", fn := fun _ => fun
  | [d1, d2, d3, d4, d5, d6, d7, d8] => { results := [.lit (.bool false)], args := [d1, d2, d3, d4, d5, d6, d7, d8] }
  | _ => none }
def FnReadQuantileRefusesWhatIsNotItsShapeWrongFormAsk : Prop := fnReadQuantileRefusesWhatIsNotItsShapeRow.holds Tryf.pinned (OpenSpec.ofChange fnReadQuantileRefusesWhatIsNotItsShapeWrong)

end Rows
end Go.Proofs.Qxb6612892aFmt
