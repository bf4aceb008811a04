/-
  No cell of these rows narrows 'for every input' (looked for: loops, veiled, ifaces, maps, wideKeys, modest, calm, conditions, laid).
  DERIVED. THE GIVEN ROWS OF THIS SEAT. 2 by the template 'for every input the law returns true; each argument reads behind the call as it read before'; 0 by the template 'total and deterministic' (their statements: Qxb6626449aTotals.lean).
  GIVEN WITH THE SEED: the statements are not yours to turn. If you find one false, say at which input.
  Laid BY PROGRAM, IN A SANDBOX (cutbox-rows.mjs): the forced cells as the released guide's own fill.sh prints them over the translation 77bf77334dd08615… (all of the seat's roots in one cut). By AI agents, Wed Nov 11 2026. No macro, syntax, notation, axiom, sorry.
-/
import Derived.Test.Qxb6626449aChecked
import GoSem.Claim
import GoSem.ClaimJoined
import GoSem.ClaimMapViews
import Derived.JoinedTies
import Derived.KernelRfl
namespace Go.Proofs.Qxb6626449a
/- THE CELL 'sum', in the pinned program and in every row, IS THE sha256 OF THE DUMP (.gsa) THAT Qxb6626449aProg.lean LOADS. Nothing in Lean hashes anything: it is a label: what it is worth is what the hold of that sum in a sandbox is worth. -/
noncomputable def Try.pinned : Pinned := { name := "qxb6626449a", sum := "77bf77334dd08615a810e5c07af3eab3ce04ac025fd5b4257480d04138b7ffd7", checked := Try.checked }
namespace Rows
def none {H : Type} : Left H := { results := [], args := [] }

/-- 'zzlaws_internal_config_b1.FnModelsSplitAtAnyRoute': WHATEVER THE INPUT: true; the input reads as it did. -/
def fnModelsSplitAtAnyRouteSpec : ChangeSpec := { name := "fnModelsSplitAtAnyRoute", fn := fun _ => fun
  | [d1, d2] => { results := [.lit (.bool true)], args := [d1, d2] }
  | _ => none }
def fnModelsSplitAtAnyRouteRow : OpenClaim := { program := "qxb6626449a", sum := "77bf77334dd08615a810e5c07af3eab3ce04ac025fd5b4257480d04138b7ffd7", func := "example.com/inference-relay/inference-relay/zzlaws_internal_config_b1.FnModelsSplitAtAnyRoute", spec := "fnModelsSplitAtAnyRoute", apart := false }
def FnModelsSplitAtAnyRouteSaid : Prop := fnModelsSplitAtAnyRouteRow.holds Try.pinned (OpenSpec.ofChange fnModelsSplitAtAnyRouteSpec)

/-- ITS FALSE NEIGHBOUR: 'it returns false'. Refute it at one input. -/
def fnModelsSplitAtAnyRouteWrong : ChangeSpec := { name := "fnModelsSplitAtAnyRoute", fn := fun _ => fun
  | [d1, d2] => { results := [.lit (.bool false)], args := [d1, d2] }
  | _ => none }
def FnModelsSplitAtAnyRouteWrongFalsely : Prop := fnModelsSplitAtAnyRouteRow.holds Try.pinned (OpenSpec.ofChange fnModelsSplitAtAnyRouteWrong)

/-- 'zzlaws_internal_config_b1.FnModelsFlattenAndRepeat': WHATEVER THE INPUT: true; the input reads as it did. -/
def fnModelsFlattenAndRepeatSpec : ChangeSpec := { name := "fnModelsFlattenAndRepeat", fn := fun _ => fun
  | [d] => { results := [.lit (.bool true)], args := [d] }
  | _ => none }
def fnModelsFlattenAndRepeatRow : OpenClaim := { program := "qxb6626449a", sum := "77bf77334dd08615a810e5c07af3eab3ce04ac025fd5b4257480d04138b7ffd7", func := "example.com/inference-relay/inference-relay/zzlaws_internal_config_b1.FnModelsFlattenAndRepeat", spec := "fnModelsFlattenAndRepeat", apart := false }
def FnModelsFlattenAndRepeatSaid : Prop := fnModelsFlattenAndRepeatRow.holds Try.pinned (OpenSpec.ofChange fnModelsFlattenAndRepeatSpec)

/-- ITS FALSE NEIGHBOUR: 'it returns false'. Refute it at one input. -/
def fnModelsFlattenAndRepeatWrong : ChangeSpec := { name := "fnModelsFlattenAndRepeat", fn := fun _ => fun
  | [d] => { results := [.lit (.bool false)], args := [d] }
  | _ => none }
def FnModelsFlattenAndRepeatWrongFalsely : Prop := fnModelsFlattenAndRepeatRow.holds Try.pinned (OpenSpec.ofChange fnModelsFlattenAndRepeatWrong)

end Rows
end Go.Proofs.Qxb6626449a
