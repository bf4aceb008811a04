/-
  DERIVED. GIVEN WITH THE SEED: THE CARDS: each row of Qxb6626483aFmtRows.lean that lists a variable, with what it lists TIED to the program's text (the seventh form; the later family's looks); each row that meets fmt, with fmt's text TOLD by the authors' own Lean function (tested against real Go, not proved from fmt's source: count such statements apart). THE CARD IS WHAT COUNTS. Prove the row's statement (the work); the ties are given (Qxb6626483aFmtTie.lean); close each card by the builder's one call (the guide's Derived/Test/ToyasCard.lean, 'card_holds'). Laid BY PROGRAM, IN A SANDBOX (cutbox-door.mjs). By AI agents, Wed Nov 11 2026. No macro, syntax, notation, axiom, sorry.
-/
import Derived.Test.Qxb6626483aFmtRows
import GoSem.ClaimSeven
namespace Go.Proofs.Qxb6626483aFmt
namespace Rows

/-- THE TOLD CARD OF 'zzlaws_internal_payload_b1.FnFindSplitAgreesWithFirstMatch'. -/
def fnFindSplitAgreesWithFirstMatchCard : Claim7 := { stood := { row := fnFindSplitAgreesWithFirstMatchRow, standIns := [], harness := (true, "f70616d08e0a467601320d300139bf15a26b09d64ff3493387c31061d60b15c3"), looks := false }, told := true, goes := false }
def FnFindSplitAgreesWithFirstMatchToldSaid : Prop := Claim7.holds Tryf.pinned (.plain (OpenSpec.ofChange fnFindSplitAgreesWithFirstMatchSpec)) fnFindSplitAgreesWithFirstMatchCard
/-- ITS FALSE NEIGHBOUR. Refute it at one input. -/
def FnFindSplitAgreesWithFirstMatchToldWrongFalsely : Prop := Claim7.holds Tryf.pinned (.plain (OpenSpec.ofChange fnFindSplitAgreesWithFirstMatchWrong)) fnFindSplitAgreesWithFirstMatchCard

/-- THE TOLD CARD OF 'zzlaws_internal_payload_b1.FnFindInsertedReleaseShadowsLater'. -/
def fnFindInsertedReleaseShadowsLaterCard : Claim7 := { stood := { row := fnFindInsertedReleaseShadowsLaterRow, standIns := [], harness := (true, "f70616d08e0a467601320d300139bf15a26b09d64ff3493387c31061d60b15c3"), looks := false }, told := true, goes := false }
def FnFindInsertedReleaseShadowsLaterToldSaid : Prop := Claim7.holds Tryf.pinned (.plain (OpenSpec.ofChange fnFindInsertedReleaseShadowsLaterSpec)) fnFindInsertedReleaseShadowsLaterCard
/-- ITS FALSE NEIGHBOUR. Refute it at one input. -/
def FnFindInsertedReleaseShadowsLaterToldWrongFalsely : Prop := Claim7.holds Tryf.pinned (.plain (OpenSpec.ofChange fnFindInsertedReleaseShadowsLaterWrong)) fnFindInsertedReleaseShadowsLaterCard
end Rows
end Go.Proofs.Qxb6626483aFmt
