/-
  No cell of these rows narrows 'for every input' (looked for: loops, veiled, ifaces, maps, wideKeys, modest, calm, conditions, laid).
  DERIVED. THE GIVEN ROWS OF THIS SEAT. 3 by the template 'for every input the law returns true; each argument reads behind the call as it read before'; 0 by the template 'total and deterministic' (their statements: Qxb6613133aTotals.lean).
  GIVEN WITH THE SEED: the statements are not yours to turn. If you find one false, say at which input.
  Laid BY PROGRAM, IN A SANDBOX (cutbox-rows.mjs): the forced cells as the released guide's own fill.sh prints them over the translation e08ff2bd82b65c4a… (all of the seat's roots in one cut). By AI agents, Wed Nov 11 2026. No macro, syntax, notation, axiom, sorry.
-/
import Derived.Test.Qxb6613133aChecked
import GoSem.Claim
import GoSem.ClaimJoined
import GoSem.ClaimMapViews
import Derived.JoinedTies
import Derived.KernelRfl
namespace Go.Proofs.Qxb6613133a
/- THE CELL 'sum', in the pinned program and in every row, IS THE sha256 OF THE DUMP (.gsa) THAT Qxb6613133aProg.lean LOADS. Nothing in Lean hashes anything: it is a label: what it is worth is what the hold of that sum in a sandbox is worth. -/
noncomputable def Try.pinned : Pinned := { name := "qxb6613133a", sum := "e08ff2bd82b65c4aa1f39d774094fa09200c45899004d39ee706e75dacb6b14e", checked := Try.checked }
namespace Rows
def none {H : Type} : Left H := { results := [], args := [] }

/-- 'zzlaws_internal_register_b1.FnSpanAndIsIntersection': WHATEVER THE INPUT: true; the input reads as it did. -/
def fnSpanAndIsIntersectionSpec : ChangeSpec := { name := "fnSpanAndIsIntersection", fn := fun _ => fun
  | [d1, d2, d3, d4, d5] => { results := [.lit (.bool true)], args := [d1, d2, d3, d4, d5] }
  | _ => none }
def fnSpanAndIsIntersectionRow : OpenClaim := { program := "qxb6613133a", sum := "e08ff2bd82b65c4aa1f39d774094fa09200c45899004d39ee706e75dacb6b14e", func := "example.com/armslength/armslength/zzlaws_internal_register_b1.FnSpanAndIsIntersection", spec := "fnSpanAndIsIntersection", apart := false }
def FnSpanAndIsIntersectionSaid : Prop := fnSpanAndIsIntersectionRow.holds Try.pinned (OpenSpec.ofChange fnSpanAndIsIntersectionSpec)

/-- ITS FALSE NEIGHBOUR: 'it returns false'. Refute it at one input. -/
def fnSpanAndIsIntersectionWrong : ChangeSpec := { name := "fnSpanAndIsIntersection", fn := fun _ => fun
  | [d1, d2, d3, d4, d5] => { results := [.lit (.bool false)], args := [d1, d2, d3, d4, d5] }
  | _ => none }
def FnSpanAndIsIntersectionWrongFalsely : Prop := fnSpanAndIsIntersectionRow.holds Try.pinned (OpenSpec.ofChange fnSpanAndIsIntersectionWrong)

/-- 'zzlaws_internal_register_b1.FnSpanAndAssociativeIdempotent': WHATEVER THE INPUT: true; the input reads as it did. -/
def fnSpanAndAssociativeIdempotentSpec : ChangeSpec := { name := "fnSpanAndAssociativeIdempotent", fn := fun _ => fun
  | [d1, d2, d3, d4, d5, d6, d7] => { results := [.lit (.bool true)], args := [d1, d2, d3, d4, d5, d6, d7] }
  | _ => none }
def fnSpanAndAssociativeIdempotentRow : OpenClaim := { program := "qxb6613133a", sum := "e08ff2bd82b65c4aa1f39d774094fa09200c45899004d39ee706e75dacb6b14e", func := "example.com/armslength/armslength/zzlaws_internal_register_b1.FnSpanAndAssociativeIdempotent", spec := "fnSpanAndAssociativeIdempotent", apart := false }
def FnSpanAndAssociativeIdempotentSaid : Prop := fnSpanAndAssociativeIdempotentRow.holds Try.pinned (OpenSpec.ofChange fnSpanAndAssociativeIdempotentSpec)

/-- ITS FALSE NEIGHBOUR: 'it returns false'. Refute it at one input. -/
def fnSpanAndAssociativeIdempotentWrong : ChangeSpec := { name := "fnSpanAndAssociativeIdempotent", fn := fun _ => fun
  | [d1, d2, d3, d4, d5, d6, d7] => { results := [.lit (.bool false)], args := [d1, d2, d3, d4, d5, d6, d7] }
  | _ => none }
def FnSpanAndAssociativeIdempotentWrongFalsely : Prop := fnSpanAndAssociativeIdempotentRow.holds Try.pinned (OpenSpec.ofChange fnSpanAndAssociativeIdempotentWrong)

/-- 'zzlaws_internal_register_b1.FnLatestFirstStrictOrderTopIsLatest': WHATEVER THE INPUT: true; the input reads as it did. -/
def fnLatestFirstStrictOrderTopIsLatestSpec : ChangeSpec := { name := "fnLatestFirstStrictOrderTopIsLatest", fn := fun _ => fun
  | [d1, d2, d3] => { results := [.lit (.bool true)], args := [d1, d2, d3] }
  | _ => none }
def fnLatestFirstStrictOrderTopIsLatestRow : OpenClaim := { program := "qxb6613133a", sum := "e08ff2bd82b65c4aa1f39d774094fa09200c45899004d39ee706e75dacb6b14e", func := "example.com/armslength/armslength/zzlaws_internal_register_b1.FnLatestFirstStrictOrderTopIsLatest", spec := "fnLatestFirstStrictOrderTopIsLatest", apart := false }
def FnLatestFirstStrictOrderTopIsLatestSaid : Prop := fnLatestFirstStrictOrderTopIsLatestRow.holds Try.pinned (OpenSpec.ofChange fnLatestFirstStrictOrderTopIsLatestSpec)

/-- ITS FALSE NEIGHBOUR: 'it returns false'. Refute it at one input. -/
def fnLatestFirstStrictOrderTopIsLatestWrong : ChangeSpec := { name := "fnLatestFirstStrictOrderTopIsLatest", fn := fun _ => fun
  | [d1, d2, d3] => { results := [.lit (.bool false)], args := [d1, d2, d3] }
  | _ => none }
def FnLatestFirstStrictOrderTopIsLatestWrongFalsely : Prop := fnLatestFirstStrictOrderTopIsLatestRow.holds Try.pinned (OpenSpec.ofChange fnLatestFirstStrictOrderTopIsLatestWrong)

end Rows
end Go.Proofs.Qxb6613133a
