/-
  No cell of these rows narrows 'for every input' (looked for: loops, veiled, ifaces, maps, wideKeys, modest, calm, conditions, laid).
  DERIVED. THE GIVEN ROWS OF THIS SEAT. 2 by the template 'for every input the law returns true; each argument reads behind the call as it read before'; 0 by the template 'total and deterministic' (their statements: Qxb6626356aTotals.lean).
  GIVEN WITH THE SEED: the statements are not yours to turn. If you find one false, say at which input.
  Laid BY PROGRAM, IN A SANDBOX (cutbox-rows.mjs): the forced cells as the released guide's own fill.sh prints them over the translation 7f44ebb24f2ad513… (all of the seat's roots in one cut). By AI agents, Wed Nov 11 2026. No macro, syntax, notation, axiom, sorry.
-/
import Derived.Test.Qxb6626356aChecked
import GoSem.Claim
import GoSem.ClaimJoined
import GoSem.ClaimMapViews
import Derived.JoinedTies
import Derived.KernelRfl
namespace Go.Proofs.Qxb6626356a
/- THE CELL 'sum', in the pinned program and in every row, IS THE sha256 OF THE DUMP (.gsa) THAT Qxb6626356aProg.lean LOADS. Nothing in Lean hashes anything: it is a label: what it is worth is what the hold of that sum in a sandbox is worth. -/
noncomputable def Try.pinned : Pinned := { name := "qxb6626356a", sum := "7f44ebb24f2ad5135b8063534e34d4eaaf5658576f04523ca5185697d1c1abcb", checked := Try.checked }
namespace Rows
def none {H : Type} : Left H := { results := [], args := [] }

/-- 'zzlaws_internal_jose_b1.FnContainsInsertAndSplit': WHATEVER THE INPUT: true; the input reads as it did. -/
def fnContainsInsertAndSplitSpec : ChangeSpec := { name := "fnContainsInsertAndSplit", fn := fun _ => fun
  | [d1, d2, d3] => { results := [.lit (.bool true)], args := [d1, d2, d3] }
  | _ => none }
def fnContainsInsertAndSplitRow : OpenClaim := { program := "qxb6626356a", sum := "7f44ebb24f2ad5135b8063534e34d4eaaf5658576f04523ca5185697d1c1abcb", func := "example.com/argwohn/argwohn/zzlaws_internal_jose_b1.FnContainsInsertAndSplit", spec := "fnContainsInsertAndSplit", apart := false }
def FnContainsInsertAndSplitSaid : Prop := fnContainsInsertAndSplitRow.holds Try.pinned (OpenSpec.ofChange fnContainsInsertAndSplitSpec)

/-- ITS FALSE NEIGHBOUR: 'it returns false'. Refute it at one input. -/
def fnContainsInsertAndSplitWrong : ChangeSpec := { name := "fnContainsInsertAndSplit", fn := fun _ => fun
  | [d1, d2, d3] => { results := [.lit (.bool false)], args := [d1, d2, d3] }
  | _ => none }
def FnContainsInsertAndSplitWrongFalsely : Prop := fnContainsInsertAndSplitRow.holds Try.pinned (OpenSpec.ofChange fnContainsInsertAndSplitWrong)

/-- 'zzlaws_internal_jose_b1.FnContainsAfterRemovingWant': WHATEVER THE INPUT: true; the input reads as it did. -/
def fnContainsAfterRemovingWantSpec : ChangeSpec := { name := "fnContainsAfterRemovingWant", fn := fun _ => fun
  | [d1, d2] => { results := [.lit (.bool true)], args := [d1, d2] }
  | _ => none }
def fnContainsAfterRemovingWantRow : OpenClaim := { program := "qxb6626356a", sum := "7f44ebb24f2ad5135b8063534e34d4eaaf5658576f04523ca5185697d1c1abcb", func := "example.com/argwohn/argwohn/zzlaws_internal_jose_b1.FnContainsAfterRemovingWant", spec := "fnContainsAfterRemovingWant", apart := false }
def FnContainsAfterRemovingWantSaid : Prop := fnContainsAfterRemovingWantRow.holds Try.pinned (OpenSpec.ofChange fnContainsAfterRemovingWantSpec)

/-- ITS FALSE NEIGHBOUR: 'it returns false'. Refute it at one input. -/
def fnContainsAfterRemovingWantWrong : ChangeSpec := { name := "fnContainsAfterRemovingWant", fn := fun _ => fun
  | [d1, d2] => { results := [.lit (.bool false)], args := [d1, d2] }
  | _ => none }
def FnContainsAfterRemovingWantWrongFalsely : Prop := fnContainsAfterRemovingWantRow.holds Try.pinned (OpenSpec.ofChange fnContainsAfterRemovingWantWrong)

end Rows
end Go.Proofs.Qxb6626356a
