/-
  No cell of these rows narrows 'for every input' (looked for: loops, veiled, ifaces, maps, wideKeys, modest, calm, conditions, laid).
  DERIVED. THE GIVEN ROWS OF THIS SEAT. 2 by the template 'for every input the law returns true; each argument reads behind the call as it read before'; 0 by the template 'total and deterministic' (their statements: Qxb6626483aFmtTotals.lean).
  GIVEN WITH THE SEED: the statements are not yours to turn. If you find one false, say at which input.
  Laid BY PROGRAM, IN A SANDBOX (cutbox-rows.mjs): the forced cells as the released guide's own fill.sh prints them over the translation 89bfc622c649f352… (all of the seat's roots in one cut). By AI agents, Wed Nov 11 2026. No macro, syntax, notation, axiom, sorry.
-/
import Derived.Test.Qxb6626483aFmtChecked
import GoSem.Claim
import GoSem.ClaimJoined
import GoSem.ClaimMapViews
import Derived.JoinedTies
import Derived.KernelRfl
namespace Go.Proofs.Qxb6626483aFmt
/- THE CELL 'sum', in the pinned program and in every row, IS THE sha256 OF THE DUMP (.gsa) THAT Qxb6626483aFmtProg.lean LOADS. Nothing in Lean hashes anything: it is a label: what it is worth is what the hold of that sum in a sandbox is worth. -/
noncomputable def Tryf.pinned : Pinned := { name := "qxb6626483afmt", sum := "89bfc622c649f352a3431e8584ea4bad02fd1c58c52dddab97d9b7e471ca8588", checked := Tryf.checked }
namespace Rows
def none {H : Type} : Left H := { results := [], args := [] }

/-- 'zzlaws_internal_payload_b1.FnFindSplitAgreesWithFirstMatch': WHATEVER THE INPUT: true; the input reads as it did. -/
def fnFindSplitAgreesWithFirstMatchSpec : ChangeSpec := { name := "fnFindSplitAgreesWithFirstMatch", fn := fun _ => fun
  | [d1, d2, d3, d4] => { results := [.lit (.bool true)], args := [d1, d2, d3, d4] }
  | _ => none }
def fnFindSplitAgreesWithFirstMatchRow : OpenClaim := { program := "qxb6626483afmt", sum := "89bfc622c649f352a3431e8584ea4bad02fd1c58c52dddab97d9b7e471ca8588", func := "example.com/setpoint/setpoint/zzlaws_internal_payload_b1.FnFindSplitAgreesWithFirstMatch", spec := "fnFindSplitAgreesWithFirstMatch", stops := ["fmt.errorf"], inPlace := ["internal/abi.NoEscape", "internal/bytealg.MakeNoZero", "fmt.errorf"], recurses := true, apart := false }
/-- NO THEOREM (fmt's text is open here; it may be false): for the released tool's asking of the row's closed facts alone. THE STATEMENT IS 'FnFindSplitAgreesWithFirstMatchToldSaid' (Qxb6626483aFmtCards.lean). -/
def FnFindSplitAgreesWithFirstMatchFormAsk : Prop := fnFindSplitAgreesWithFirstMatchRow.holds Tryf.pinned (OpenSpec.ofChange fnFindSplitAgreesWithFirstMatchSpec)

/-- ITS FALSE NEIGHBOUR: 'it returns false'. Refute it at one input. -/
def fnFindSplitAgreesWithFirstMatchWrong : ChangeSpec := { name := "fnFindSplitAgreesWithFirstMatch", fn := fun _ => fun
  | [d1, d2, d3, d4] => { results := [.lit (.bool false)], args := [d1, d2, d3, d4] }
  | _ => none }
def FnFindSplitAgreesWithFirstMatchWrongFormAsk : Prop := fnFindSplitAgreesWithFirstMatchRow.holds Tryf.pinned (OpenSpec.ofChange fnFindSplitAgreesWithFirstMatchWrong)

/-- 'zzlaws_internal_payload_b1.FnFindInsertedReleaseShadowsLater': WHATEVER THE INPUT: true; the input reads as it did. -/
def fnFindInsertedReleaseShadowsLaterSpec : ChangeSpec := { name := "fnFindInsertedReleaseShadowsLater", fn := fun _ => fun
  | [d1, d2, d3, d4, d5] => { results := [.lit (.bool true)], args := [d1, d2, d3, d4, d5] }
  | _ => none }
def fnFindInsertedReleaseShadowsLaterRow : OpenClaim := { program := "qxb6626483afmt", sum := "89bfc622c649f352a3431e8584ea4bad02fd1c58c52dddab97d9b7e471ca8588", func := "example.com/setpoint/setpoint/zzlaws_internal_payload_b1.FnFindInsertedReleaseShadowsLater", spec := "fnFindInsertedReleaseShadowsLater", stops := ["fmt.errorf"], inPlace := ["internal/abi.NoEscape", "internal/bytealg.MakeNoZero", "fmt.errorf"], recurses := true, apart := false }
/-- NO THEOREM (fmt's text is open here; it may be false): for the released tool's asking of the row's closed facts alone. THE STATEMENT IS 'FnFindInsertedReleaseShadowsLaterToldSaid' (Qxb6626483aFmtCards.lean). -/
def FnFindInsertedReleaseShadowsLaterFormAsk : Prop := fnFindInsertedReleaseShadowsLaterRow.holds Tryf.pinned (OpenSpec.ofChange fnFindInsertedReleaseShadowsLaterSpec)

/-- ITS FALSE NEIGHBOUR: 'it returns false'. Refute it at one input. -/
def fnFindInsertedReleaseShadowsLaterWrong : ChangeSpec := { name := "fnFindInsertedReleaseShadowsLater", fn := fun _ => fun
  | [d1, d2, d3, d4, d5] => { results := [.lit (.bool false)], args := [d1, d2, d3, d4, d5] }
  | _ => none }
def FnFindInsertedReleaseShadowsLaterWrongFormAsk : Prop := fnFindInsertedReleaseShadowsLaterRow.holds Tryf.pinned (OpenSpec.ofChange fnFindInsertedReleaseShadowsLaterWrong)

end Rows
end Go.Proofs.Qxb6626483aFmt
