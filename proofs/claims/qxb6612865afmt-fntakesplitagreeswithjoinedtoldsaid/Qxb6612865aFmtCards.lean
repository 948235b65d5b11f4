/-
  DERIVED. GIVEN WITH THE SEED: THE CARDS: each row of Qxb6612865aFmtRows.lean that lists a variable, with what it lists TIED to the program's text (the seventh form; the later family's looks); each row that meets fmt, with fmt's text TOLD by the authors' own Lean function (tested against real Go, not proved from fmt's source: count such statements apart). THE CARD IS WHAT COUNTS. Prove the row's statement (the work); the ties are given (Qxb6612865aFmtTie.lean); close each card by the builder's one call (the guide's Derived/Test/ToyasCard.lean, 'card_holds'). Laid BY PROGRAM, IN A SANDBOX (cutbox-door.mjs). By AI agents, Wed Nov 11 2026. No macro, syntax, notation, axiom, sorry.
-/
import Derived.Test.Qxb6612865aFmtRows
import GoSem.ClaimSeven
namespace Go.Proofs.Qxb6612865aFmt
namespace Rows

/-- THE TOLD AND TIED CARD OF 'zzlaws_root_b1.FnTakeScriptMatchesCursor'. -/
def fnTakeScriptMatchesCursorCard : Claim7 := { stood := { row := fnTakeScriptMatchesCursorRow, standIns := [], harness := (true, "0c28a1e77aa7a76ac8fe9b307e13eacfac7596be6e577ed6c45896aa05d8214f"), looks := false }, told := true, laidByText := true, laidKinds := [.called], laidTests := true, laidLooks := .later, goes := false }
def FnTakeScriptMatchesCursorToldSaid : Prop := Claim7.holds Tryf.pinned (.plain (OpenSpec.ofChange fnTakeScriptMatchesCursorSpec)) fnTakeScriptMatchesCursorCard
/-- ITS FALSE NEIGHBOUR. Refute it at one input. -/
def FnTakeScriptMatchesCursorToldWrongFalsely : Prop := Claim7.holds Tryf.pinned (.plain (OpenSpec.ofChange fnTakeScriptMatchesCursorWrong)) fnTakeScriptMatchesCursorCard

/-- THE TOLD AND TIED CARD OF 'zzlaws_root_b1.FnTakeSplitAgreesWithJoined'. -/
def fnTakeSplitAgreesWithJoinedCard : Claim7 := { stood := { row := fnTakeSplitAgreesWithJoinedRow, standIns := [], harness := (true, "0c28a1e77aa7a76ac8fe9b307e13eacfac7596be6e577ed6c45896aa05d8214f"), looks := false }, told := true, laidByText := true, laidKinds := [.called], laidTests := true, laidLooks := .later, goes := false }
def FnTakeSplitAgreesWithJoinedToldSaid : Prop := Claim7.holds Tryf.pinned (.plain (OpenSpec.ofChange fnTakeSplitAgreesWithJoinedSpec)) fnTakeSplitAgreesWithJoinedCard
/-- ITS FALSE NEIGHBOUR. Refute it at one input. -/
def FnTakeSplitAgreesWithJoinedToldWrongFalsely : Prop := Claim7.holds Tryf.pinned (.plain (OpenSpec.ofChange fnTakeSplitAgreesWithJoinedWrong)) fnTakeSplitAgreesWithJoinedCard

/-- THE TOLD AND TIED CARD OF 'zzlaws_root_b1.FnMemberScriptMatchesFrames'. -/
def fnMemberScriptMatchesFramesCard : Claim7 := { stood := { row := fnMemberScriptMatchesFramesRow, standIns := [], harness := (true, "0c28a1e77aa7a76ac8fe9b307e13eacfac7596be6e577ed6c45896aa05d8214f"), looks := false }, told := true, laidByText := true, laidKinds := [.called, .called, .called], laidTests := true, laidLooks := .later, goes := false }
def FnMemberScriptMatchesFramesToldSaid : Prop := Claim7.holds Tryf.pinned (.plain (OpenSpec.ofChange fnMemberScriptMatchesFramesSpec)) fnMemberScriptMatchesFramesCard
/-- ITS FALSE NEIGHBOUR. Refute it at one input. -/
def FnMemberScriptMatchesFramesToldWrongFalsely : Prop := Claim7.holds Tryf.pinned (.plain (OpenSpec.ofChange fnMemberScriptMatchesFramesWrong)) fnMemberScriptMatchesFramesCard

/-- THE TOLD AND TIED CARD OF 'zzlaws_root_b1.FnMemberResumesOnItsRest'. -/
def fnMemberResumesOnItsRestCard : Claim7 := { stood := { row := fnMemberResumesOnItsRestRow, standIns := [], harness := (true, "0c28a1e77aa7a76ac8fe9b307e13eacfac7596be6e577ed6c45896aa05d8214f"), looks := false }, told := true, laidByText := true, laidKinds := [.called, .called, .called], laidTests := true, laidLooks := .later, goes := false }
def FnMemberResumesOnItsRestToldSaid : Prop := Claim7.holds Tryf.pinned (.plain (OpenSpec.ofChange fnMemberResumesOnItsRestSpec)) fnMemberResumesOnItsRestCard
/-- ITS FALSE NEIGHBOUR. Refute it at one input. -/
def FnMemberResumesOnItsRestToldWrongFalsely : Prop := Claim7.holds Tryf.pinned (.plain (OpenSpec.ofChange fnMemberResumesOnItsRestWrong)) fnMemberResumesOnItsRestCard
end Rows
end Go.Proofs.Qxb6612865aFmt
