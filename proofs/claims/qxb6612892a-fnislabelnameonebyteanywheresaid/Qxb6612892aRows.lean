/-
  No cell of these rows narrows 'for every input' (looked for: loops, veiled, ifaces, maps, wideKeys, modest, calm, conditions, laid).
  DERIVED. THE GIVEN ROWS OF THIS SEAT. 2 by the template 'for every input the law returns true; each argument reads behind the call as it read before'; 0 by the template 'total and deterministic' (their statements: Qxb6612892aTotals.lean).
  GIVEN WITH THE SEED: the statements are not yours to turn. If you find one false, say at which input.
  Laid BY PROGRAM, IN A SANDBOX (cutbox-rows.mjs): the forced cells as the released guide's own fill.sh prints them over the translation 6ef49fe66bf583c9… (all of the seat's roots in one cut). By AI agents, Wed Nov 11 2026. No macro, syntax, notation, axiom, sorry.
-/
import Derived.Test.Qxb6612892aChecked
import GoSem.Claim
import GoSem.ClaimJoined
import GoSem.ClaimMapViews
import Derived.JoinedTies
import Derived.KernelRfl
namespace Go.Proofs.Qxb6612892a
/- THE CELL 'sum', in the pinned program and in every row, IS THE sha256 OF THE DUMP (.gsa) THAT Qxb6612892aProg.lean LOADS. Nothing in Lean hashes anything: it is a label: what it is worth is what the hold of that sum in a sandbox is worth. -/
noncomputable def Try.pinned : Pinned := { name := "qxb6612892a", sum := "6ef49fe66bf583c92821fd373542b4e5c7ac5b01209d2532a8ce60fecd938b00", checked := Try.checked }
namespace Rows
def none {H : Type} : Left H := { results := [], args := [] }

/-- 'zzlaws_root_b1.FnIsLabelNameSplitsAtAnyCut': WHATEVER THE INPUT: true; the input reads as it did. -/
def fnIsLabelNameSplitsAtAnyCutSpec : ChangeSpec := { name := "fnIsLabelNameSplitsAtAnyCut", fn := fun _ => fun
  | [d1, d2] => { results := [.lit (.bool true)], args := [d1, d2] }
  | _ => none }
def fnIsLabelNameSplitsAtAnyCutRow : OpenClaim := { program := "qxb6612892a", sum := "6ef49fe66bf583c92821fd373542b4e5c7ac5b01209d2532a8ce60fecd938b00", func := "example.com/labelwise/labelwise/zzlaws_root_b1.FnIsLabelNameSplitsAtAnyCut", spec := "fnIsLabelNameSplitsAtAnyCut", apart := false }
def FnIsLabelNameSplitsAtAnyCutSaid : Prop := fnIsLabelNameSplitsAtAnyCutRow.holds Try.pinned (OpenSpec.ofChange fnIsLabelNameSplitsAtAnyCutSpec)

/-- ITS FALSE NEIGHBOUR: 'it returns false'. Refute it at one input. -/
def fnIsLabelNameSplitsAtAnyCutWrong : ChangeSpec := { name := "fnIsLabelNameSplitsAtAnyCut", fn := fun _ => fun
  | [d1, d2] => { results := [.lit (.bool false)], args := [d1, d2] }
  | _ => none }
def FnIsLabelNameSplitsAtAnyCutWrongFalsely : Prop := fnIsLabelNameSplitsAtAnyCutRow.holds Try.pinned (OpenSpec.ofChange fnIsLabelNameSplitsAtAnyCutWrong)

/-- 'zzlaws_root_b1.FnIsLabelNameOneByteAnywhere': WHATEVER THE INPUT: true; the input reads as it did. -/
def fnIsLabelNameOneByteAnywhereSpec : ChangeSpec := { name := "fnIsLabelNameOneByteAnywhere", fn := fun _ => fun
  | [d1, d2, d3] => { results := [.lit (.bool true)], args := [d1, d2, d3] }
  | _ => none }
def fnIsLabelNameOneByteAnywhereRow : OpenClaim := { program := "qxb6612892a", sum := "6ef49fe66bf583c92821fd373542b4e5c7ac5b01209d2532a8ce60fecd938b00", func := "example.com/labelwise/labelwise/zzlaws_root_b1.FnIsLabelNameOneByteAnywhere", spec := "fnIsLabelNameOneByteAnywhere", apart := false }
def FnIsLabelNameOneByteAnywhereSaid : Prop := fnIsLabelNameOneByteAnywhereRow.holds Try.pinned (OpenSpec.ofChange fnIsLabelNameOneByteAnywhereSpec)

/-- ITS FALSE NEIGHBOUR: 'it returns false'. Refute it at one input. -/
def fnIsLabelNameOneByteAnywhereWrong : ChangeSpec := { name := "fnIsLabelNameOneByteAnywhere", fn := fun _ => fun
  | [d1, d2, d3] => { results := [.lit (.bool false)], args := [d1, d2, d3] }
  | _ => none }
def FnIsLabelNameOneByteAnywhereWrongFalsely : Prop := fnIsLabelNameOneByteAnywhereRow.holds Try.pinned (OpenSpec.ofChange fnIsLabelNameOneByteAnywhereWrong)

end Rows
end Go.Proofs.Qxb6612892a
