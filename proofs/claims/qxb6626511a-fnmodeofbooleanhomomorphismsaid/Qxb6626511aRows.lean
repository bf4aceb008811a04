/-
  No cell of these rows narrows 'for every input' (looked for: loops, veiled, ifaces, maps, wideKeys, modest, calm, conditions, laid).
  DERIVED. THE GIVEN ROWS OF THIS SEAT. 2 by the template 'for every input the law returns true; each argument reads behind the call as it read before'; 0 by the template 'total and deterministic' (their statements: Qxb6626511aTotals.lean).
  GIVEN WITH THE SEED: the statements are not yours to turn. If you find one false, say at which input.
  Laid BY PROGRAM, IN A SANDBOX (cutbox-rows.mjs): the forced cells as the released guide's own fill.sh prints them over the translation d8636a157802430f… (all of the seat's roots in one cut). By AI agents, Wed Nov 11 2026. No macro, syntax, notation, axiom, sorry.
-/
import Derived.Test.Qxb6626511aChecked
import GoSem.Claim
import GoSem.ClaimJoined
import GoSem.ClaimMapViews
import Derived.JoinedTies
import Derived.KernelRfl
namespace Go.Proofs.Qxb6626511a
/- THE CELL 'sum', in the pinned program and in every row, IS THE sha256 OF THE DUMP (.gsa) THAT Qxb6626511aProg.lean LOADS. Nothing in Lean hashes anything: it is a label: what it is worth is what the hold of that sum in a sandbox is worth. -/
noncomputable def Try.pinned : Pinned := { name := "qxb6626511a", sum := "d8636a157802430f9bc2d2129c3fef259c02ce750feae2e9509c5ecff6cd2972", checked := Try.checked }
namespace Rows
def none {H : Type} : Left H := { results := [], args := [] }

/-- 'zzlaws_proto_b1.FnModeOfOrderIsomorphismOnKeptBits': WHATEVER THE INPUT: true; the input reads as it did. -/
def fnModeOfOrderIsomorphismOnKeptBitsSpec : ChangeSpec := { name := "fnModeOfOrderIsomorphismOnKeptBits", fn := fun _ => fun
  | [d1, d2] => { results := [.lit (.bool true)], args := [d1, d2] }
  | _ => none }
def fnModeOfOrderIsomorphismOnKeptBitsRow : OpenClaim := { program := "qxb6626511a", sum := "d8636a157802430f9bc2d2129c3fef259c02ce750feae2e9509c5ecff6cd2972", func := "example.com/hail-guest/hail-guest/zzlaws_proto_b1.FnModeOfOrderIsomorphismOnKeptBits", spec := "fnModeOfOrderIsomorphismOnKeptBits", apart := false }
def FnModeOfOrderIsomorphismOnKeptBitsSaid : Prop := fnModeOfOrderIsomorphismOnKeptBitsRow.holds Try.pinned (OpenSpec.ofChange fnModeOfOrderIsomorphismOnKeptBitsSpec)

/-- ITS FALSE NEIGHBOUR: 'it returns false'. Refute it at one input. -/
def fnModeOfOrderIsomorphismOnKeptBitsWrong : ChangeSpec := { name := "fnModeOfOrderIsomorphismOnKeptBits", fn := fun _ => fun
  | [d1, d2] => { results := [.lit (.bool false)], args := [d1, d2] }
  | _ => none }
def FnModeOfOrderIsomorphismOnKeptBitsWrongFalsely : Prop := fnModeOfOrderIsomorphismOnKeptBitsRow.holds Try.pinned (OpenSpec.ofChange fnModeOfOrderIsomorphismOnKeptBitsWrong)

/-- 'zzlaws_proto_b1.FnModeOfBooleanHomomorphism': WHATEVER THE INPUT: true; the input reads as it did. -/
def fnModeOfBooleanHomomorphismSpec : ChangeSpec := { name := "fnModeOfBooleanHomomorphism", fn := fun _ => fun
  | [d1, d2] => { results := [.lit (.bool true)], args := [d1, d2] }
  | _ => none }
def fnModeOfBooleanHomomorphismRow : OpenClaim := { program := "qxb6626511a", sum := "d8636a157802430f9bc2d2129c3fef259c02ce750feae2e9509c5ecff6cd2972", func := "example.com/hail-guest/hail-guest/zzlaws_proto_b1.FnModeOfBooleanHomomorphism", spec := "fnModeOfBooleanHomomorphism", apart := false }
def FnModeOfBooleanHomomorphismSaid : Prop := fnModeOfBooleanHomomorphismRow.holds Try.pinned (OpenSpec.ofChange fnModeOfBooleanHomomorphismSpec)

/-- ITS FALSE NEIGHBOUR: 'it returns false'. Refute it at one input. -/
def fnModeOfBooleanHomomorphismWrong : ChangeSpec := { name := "fnModeOfBooleanHomomorphism", fn := fun _ => fun
  | [d1, d2] => { results := [.lit (.bool false)], args := [d1, d2] }
  | _ => none }
def FnModeOfBooleanHomomorphismWrongFalsely : Prop := fnModeOfBooleanHomomorphismRow.holds Try.pinned (OpenSpec.ofChange fnModeOfBooleanHomomorphismWrong)

end Rows
end Go.Proofs.Qxb6626511a
