/-
  NARROWER THAN 'FOR EVERY INPUT', by the rows' own cells (each row's printed sentence says how): FnTakeScriptMatchesCursor: ifaces, laid · FnTakeSplitAgreesWithJoined: ifaces, laid · FnMemberScriptMatchesFrames: ifaces, laid · FnMemberResumesOnItsRest: ifaces, laid.
  DERIVED. THE GIVEN ROWS OF THIS SEAT. 4 by the template 'for every input the law returns true; each argument reads behind the call as it read before'; 0 by the template 'total and deterministic' (their statements: Qxb6612865aFmtTotals.lean).
  GIVEN WITH THE SEED: the statements are not yours to turn. If you find one false, say at which input.
  Laid BY PROGRAM, IN A SANDBOX (cutbox-rows.mjs): the forced cells as the released guide's own fill.sh prints them over the translation 4298a7ea3310e7ad… (all of the seat's roots in one cut). By AI agents, Wed Nov 11 2026. No macro, syntax, notation, axiom, sorry.
-/
import Derived.Test.Qxb6612865aFmtChecked
import GoSem.Claim
import GoSem.ClaimJoined
import GoSem.ClaimMapViews
import Derived.JoinedTies
import Derived.KernelRfl
namespace Go.Proofs.Qxb6612865aFmt
/- THE CELL 'sum', in the pinned program and in every row, IS THE sha256 OF THE DUMP (.gsa) THAT Qxb6612865aFmtProg.lean LOADS. Nothing in Lean hashes anything: it is a label: what it is worth is what the hold of that sum in a sandbox is worth. -/
noncomputable def Tryf.pinned : Pinned := { name := "qxb6612865afmt", sum := "4298a7ea3310e7ad37143fa810fce60fc825ddcb62376fb927a3afd6e49ddd34", checked := Tryf.checked }
namespace Rows
def none {H : Type} : Left H := { results := [], args := [] }

/- WHAT THE LISTED PACKAGE-LEVEL VARIABLES READ AS WHEN THE CALL BEGINS. Each datum BY PROGRAM (the guide's laid-datum.mjs) off the statement by which the dump's own 'gosem.cut.vars' lays the variable. In a bare row this is a premise. The card (Qxb6612865aFmtCards.lean) ties it to the program's text. -/
def laid_example_com_circlet_circlet_errMalformed {H : Type} : DataW H := .iface "*errors.errorString" (.ptr (.agg [.lit (.string [99, 105, 114, 99, 108, 101, 116, 58, 32, 109, 97, 108, 102, 111, 114, 109, 101, 100, 32, 109, 101, 115, 115, 97, 103, 101])]))
def laid_example_com_circlet_circlet_ErrValueSize {H : Type} : DataW H := .iface "*errors.errorString" (.ptr (.agg [.lit (.string [99, 105, 114, 99, 108, 101, 116, 58, 32, 118, 97, 108, 117, 101, 32, 115, 105, 122, 101, 32, 111, 117, 116, 32, 111, 102, 32, 114, 97, 110, 103, 101])]))
def laid_example_com_circlet_circlet_ErrMemberSize {H : Type} : DataW H := .iface "*errors.errorString" (.ptr (.agg [.lit (.string [99, 105, 114, 99, 108, 101, 116, 58, 32, 109, 101, 109, 98, 101, 114, 32, 115, 105, 122, 101, 32, 111, 117, 116, 32, 111, 102, 32, 114, 97, 110, 103, 101])]))

/-- 'zzlaws_root_b1.FnTakeScriptMatchesCursor': WHATEVER THE INPUT: true; the input reads as it did. -/
def fnTakeScriptMatchesCursorSpec : ChangeSpec := { name := "fnTakeScriptMatchesCursor", vars := ["example.com/circlet/circlet.errMalformed"], fn := fun _ => fun
  | [d1, d2, g1] => { results := [.lit (.bool true)], args := [d1, d2], vars := [g1] }
  | _ => none }
def fnTakeScriptMatchesCursorRow : OpenClaim := { program := "qxb6612865afmt", sum := "4298a7ea3310e7ad37143fa810fce60fc825ddcb62376fb927a3afd6e49ddd34", func := "example.com/circlet/circlet/zzlaws_root_b1.FnTakeScriptMatchesCursor", spec := "fnTakeScriptMatchesCursor", stops := ["fmt.errorf"], inPlace := ["fmt.errorf"], named := ["example.com/circlet/circlet.errMalformed"], ifaces := true, apart := false, laid := [("example.com/circlet/circlet.errMalformed", laid_example_com_circlet_circlet_errMalformed)] }
/-- NO THEOREM (fmt's text is open here; it may be false): for the released tool's asking of the row's closed facts alone. THE STATEMENT IS 'FnTakeScriptMatchesCursorToldSaid' (Qxb6612865aFmtCards.lean). -/
def FnTakeScriptMatchesCursorFormAsk : Prop := fnTakeScriptMatchesCursorRow.holds Tryf.pinned (OpenSpec.ofChange fnTakeScriptMatchesCursorSpec)

/-- ITS FALSE NEIGHBOUR: 'it returns false'. Refute it at one input. -/
def fnTakeScriptMatchesCursorWrong : ChangeSpec := { name := "fnTakeScriptMatchesCursor", vars := ["example.com/circlet/circlet.errMalformed"], fn := fun _ => fun
  | [d1, d2, g1] => { results := [.lit (.bool false)], args := [d1, d2], vars := [g1] }
  | _ => none }
def FnTakeScriptMatchesCursorWrongFormAsk : Prop := fnTakeScriptMatchesCursorRow.holds Tryf.pinned (OpenSpec.ofChange fnTakeScriptMatchesCursorWrong)

/-- 'zzlaws_root_b1.FnTakeSplitAgreesWithJoined': WHATEVER THE INPUT: true; the input reads as it did. -/
def fnTakeSplitAgreesWithJoinedSpec : ChangeSpec := { name := "fnTakeSplitAgreesWithJoined", vars := ["example.com/circlet/circlet.errMalformed"], fn := fun _ => fun
  | [d1, d2, d3, g1] => { results := [.lit (.bool true)], args := [d1, d2, d3], vars := [g1] }
  | _ => none }
def fnTakeSplitAgreesWithJoinedRow : OpenClaim := { program := "qxb6612865afmt", sum := "4298a7ea3310e7ad37143fa810fce60fc825ddcb62376fb927a3afd6e49ddd34", func := "example.com/circlet/circlet/zzlaws_root_b1.FnTakeSplitAgreesWithJoined", spec := "fnTakeSplitAgreesWithJoined", stops := ["fmt.errorf"], inPlace := ["fmt.errorf"], named := ["example.com/circlet/circlet.errMalformed"], ifaces := true, apart := false, laid := [("example.com/circlet/circlet.errMalformed", laid_example_com_circlet_circlet_errMalformed)] }
/-- NO THEOREM (fmt's text is open here; it may be false): for the released tool's asking of the row's closed facts alone. THE STATEMENT IS 'FnTakeSplitAgreesWithJoinedToldSaid' (Qxb6612865aFmtCards.lean). -/
def FnTakeSplitAgreesWithJoinedFormAsk : Prop := fnTakeSplitAgreesWithJoinedRow.holds Tryf.pinned (OpenSpec.ofChange fnTakeSplitAgreesWithJoinedSpec)

/-- ITS FALSE NEIGHBOUR: 'it returns false'. Refute it at one input. -/
def fnTakeSplitAgreesWithJoinedWrong : ChangeSpec := { name := "fnTakeSplitAgreesWithJoined", vars := ["example.com/circlet/circlet.errMalformed"], fn := fun _ => fun
  | [d1, d2, d3, g1] => { results := [.lit (.bool false)], args := [d1, d2, d3], vars := [g1] }
  | _ => none }
def FnTakeSplitAgreesWithJoinedWrongFormAsk : Prop := fnTakeSplitAgreesWithJoinedRow.holds Tryf.pinned (OpenSpec.ofChange fnTakeSplitAgreesWithJoinedWrong)

/-- 'zzlaws_root_b1.FnMemberScriptMatchesFrames': WHATEVER THE INPUT: true; the input reads as it did. -/
def fnMemberScriptMatchesFramesSpec : ChangeSpec := { name := "fnMemberScriptMatchesFrames", vars := ["example.com/circlet/circlet.errMalformed", "example.com/circlet/circlet.ErrMemberSize", "example.com/circlet/circlet.ErrValueSize"], fn := fun _ => fun
  | [d1, d2, g1, g2, g3] => { results := [.lit (.bool true)], args := [d1, d2], vars := [g1, g2, g3] }
  | _ => none }
def fnMemberScriptMatchesFramesRow : OpenClaim := { program := "qxb6612865afmt", sum := "4298a7ea3310e7ad37143fa810fce60fc825ddcb62376fb927a3afd6e49ddd34", func := "example.com/circlet/circlet/zzlaws_root_b1.FnMemberScriptMatchesFrames", spec := "fnMemberScriptMatchesFrames", stops := ["fmt.errorf"], inPlace := ["fmt.errorf"], unfollowed := true, recurses := true, named := ["example.com/circlet/circlet.errMalformed", "example.com/circlet/circlet.ErrMemberSize", "example.com/circlet/circlet.ErrValueSize"], ifaces := true, apart := false, laid := [("example.com/circlet/circlet.ErrValueSize", laid_example_com_circlet_circlet_ErrValueSize), ("example.com/circlet/circlet.ErrMemberSize", laid_example_com_circlet_circlet_ErrMemberSize), ("example.com/circlet/circlet.errMalformed", laid_example_com_circlet_circlet_errMalformed)] }
/-- NO THEOREM (fmt's text is open here; it may be false): for the released tool's asking of the row's closed facts alone. THE STATEMENT IS 'FnMemberScriptMatchesFramesToldSaid' (Qxb6612865aFmtCards.lean). -/
def FnMemberScriptMatchesFramesFormAsk : Prop := fnMemberScriptMatchesFramesRow.holds Tryf.pinned (OpenSpec.ofChange fnMemberScriptMatchesFramesSpec)

/-- ITS FALSE NEIGHBOUR: 'it returns false'. Refute it at one input. -/
def fnMemberScriptMatchesFramesWrong : ChangeSpec := { name := "fnMemberScriptMatchesFrames", vars := ["example.com/circlet/circlet.errMalformed", "example.com/circlet/circlet.ErrMemberSize", "example.com/circlet/circlet.ErrValueSize"], fn := fun _ => fun
  | [d1, d2, g1, g2, g3] => { results := [.lit (.bool false)], args := [d1, d2], vars := [g1, g2, g3] }
  | _ => none }
def FnMemberScriptMatchesFramesWrongFormAsk : Prop := fnMemberScriptMatchesFramesRow.holds Tryf.pinned (OpenSpec.ofChange fnMemberScriptMatchesFramesWrong)

/-- 'zzlaws_root_b1.FnMemberResumesOnItsRest': WHATEVER THE INPUT: true; the input reads as it did. -/
def fnMemberResumesOnItsRestSpec : ChangeSpec := { name := "fnMemberResumesOnItsRest", vars := ["example.com/circlet/circlet.errMalformed", "example.com/circlet/circlet.ErrMemberSize", "example.com/circlet/circlet.ErrValueSize"], fn := fun _ => fun
  | [d, g1, g2, g3] => { results := [.lit (.bool true)], args := [d], vars := [g1, g2, g3] }
  | _ => none }
def fnMemberResumesOnItsRestRow : OpenClaim := { program := "qxb6612865afmt", sum := "4298a7ea3310e7ad37143fa810fce60fc825ddcb62376fb927a3afd6e49ddd34", func := "example.com/circlet/circlet/zzlaws_root_b1.FnMemberResumesOnItsRest", spec := "fnMemberResumesOnItsRest", stops := ["fmt.errorf"], inPlace := ["fmt.errorf"], unfollowed := true, recurses := true, named := ["example.com/circlet/circlet.errMalformed", "example.com/circlet/circlet.ErrMemberSize", "example.com/circlet/circlet.ErrValueSize"], ifaces := true, apart := false, laid := [("example.com/circlet/circlet.ErrValueSize", laid_example_com_circlet_circlet_ErrValueSize), ("example.com/circlet/circlet.ErrMemberSize", laid_example_com_circlet_circlet_ErrMemberSize), ("example.com/circlet/circlet.errMalformed", laid_example_com_circlet_circlet_errMalformed)] }
/-- NO THEOREM (fmt's text is open here; it may be false): for the released tool's asking of the row's closed facts alone. THE STATEMENT IS 'FnMemberResumesOnItsRestToldSaid' (Qxb6612865aFmtCards.lean). -/
def FnMemberResumesOnItsRestFormAsk : Prop := fnMemberResumesOnItsRestRow.holds Tryf.pinned (OpenSpec.ofChange fnMemberResumesOnItsRestSpec)

/-- ITS FALSE NEIGHBOUR: 'it returns false'. Refute it at one input. -/
def fnMemberResumesOnItsRestWrong : ChangeSpec := { name := "fnMemberResumesOnItsRest", vars := ["example.com/circlet/circlet.errMalformed", "example.com/circlet/circlet.ErrMemberSize", "example.com/circlet/circlet.ErrValueSize"], fn := fun _ => fun
  | [d, g1, g2, g3] => { results := [.lit (.bool false)], args := [d], vars := [g1, g2, g3] }
  | _ => none }
def FnMemberResumesOnItsRestWrongFormAsk : Prop := fnMemberResumesOnItsRestRow.holds Tryf.pinned (OpenSpec.ofChange fnMemberResumesOnItsRestWrong)

end Rows
end Go.Proofs.Qxb6612865aFmt
