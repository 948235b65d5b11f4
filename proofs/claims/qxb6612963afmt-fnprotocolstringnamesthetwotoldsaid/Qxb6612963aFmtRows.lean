/-
  NARROWER THAN 'FOR EVERY INPUT', by the rows' own cells (each row's printed sentence says how): FnProtocolStringNamesTheTwo: laid.
  DERIVED. THE GIVEN ROWS OF THIS SEAT. 1 by the template 'for every input the law returns true; each argument reads behind the call as it read before'; 0 by the template 'total and deterministic' (their statements: Qxb6612963aFmtTotals.lean).
  GIVEN WITH THE SEED: the statements are not yours to turn. If you find one false, say at which input.
  Laid BY PROGRAM, IN A SANDBOX (cutbox-rows.mjs): the forced cells as the released guide's own fill.sh prints them over the translation 3f33e5911adfdd94… (all of the seat's roots in one cut). By AI agents, Wed Nov 11 2026. No macro, syntax, notation, axiom, sorry.
-/
import Derived.Test.Qxb6612963aFmtChecked
import GoSem.Claim
import GoSem.ClaimJoined
import GoSem.ClaimMapViews
import Derived.JoinedTies
import Derived.KernelRfl
namespace Go.Proofs.Qxb6612963aFmt
/- THE CELL 'sum', in the pinned program and in every row, IS THE sha256 OF THE DUMP (.gsa) THAT Qxb6612963aFmtProg.lean LOADS. Nothing in Lean hashes anything: it is a label: what it is worth is what the hold of that sum in a sandbox is worth. -/
noncomputable def Tryf.pinned : Pinned := { name := "qxb6612963afmt", sum := "3f33e5911adfdd945d465693fcc73ab54e48498d900b00d96b0431ce5138bfbd", checked := Tryf.checked }
namespace Rows
def none {H : Type} : Left H := { results := [], args := [] }

/- WHAT THE LISTED PACKAGE-LEVEL VARIABLES READ AS WHEN THE CALL BEGINS. Each datum BY PROGRAM (the guide's laid-datum.mjs) off the statement by which the dump's own 'gosem.cut.vars' lays the variable. In a bare row this is a premise. The card (Qxb6612963aFmtCards.lean) ties it to the program's text. -/
def laid_example_com_isimud_isimud_protocolNames {H : Type} : DataW H := .agg [.lit (.string [80, 114, 111, 116, 111, 99, 111, 108]), .lit (.string [112, 114, 111, 116, 111, 99, 111, 108]), .slice [.lit (.string [110, 97, 116, 105, 118, 101]), .lit (.string [115, 51])] []]

/-- 'zzlaws_root_b1.FnProtocolStringNamesTheTwo': WHATEVER THE INPUT: true; the input reads as it did. -/
def fnProtocolStringNamesTheTwoSpec : ChangeSpec := { name := "fnProtocolStringNamesTheTwo", vars := ["example.com/isimud/isimud.protocolNames"], fn := fun _ => fun
  | [d1, d2, g1] => { results := [.lit (.bool true)], args := [d1, d2], vars := [g1] }
  | _ => none }
def fnProtocolStringNamesTheTwoRow : OpenClaim := { program := "qxb6612963afmt", sum := "3f33e5911adfdd945d465693fcc73ab54e48498d900b00d96b0431ce5138bfbd", func := "example.com/isimud/isimud/zzlaws_root_b1.FnProtocolStringNamesTheTwo", spec := "fnProtocolStringNamesTheTwo", stops := ["fmt.Sprintf, its operands' methods called"], inPlace := ["fmt.Sprintf"], unfollowed := true, recurses := true, named := ["example.com/isimud/isimud.protocolNames"], apart := false, laid := [("example.com/isimud/isimud.protocolNames", laid_example_com_isimud_isimud_protocolNames)] }
/-- NO THEOREM (fmt's text is open here; it may be false): for the released tool's asking of the row's closed facts alone. THE STATEMENT IS 'FnProtocolStringNamesTheTwoToldSaid' (Qxb6612963aFmtCards.lean). -/
def FnProtocolStringNamesTheTwoFormAsk : Prop := fnProtocolStringNamesTheTwoRow.holds Tryf.pinned (OpenSpec.ofChange fnProtocolStringNamesTheTwoSpec)

/-- ITS FALSE NEIGHBOUR: 'it returns false'. Refute it at one input. -/
def fnProtocolStringNamesTheTwoWrong : ChangeSpec := { name := "fnProtocolStringNamesTheTwo", vars := ["example.com/isimud/isimud.protocolNames"], fn := fun _ => fun
  | [d1, d2, g1] => { results := [.lit (.bool false)], args := [d1, d2], vars := [g1] }
  | _ => none }
def FnProtocolStringNamesTheTwoWrongFormAsk : Prop := fnProtocolStringNamesTheTwoRow.holds Tryf.pinned (OpenSpec.ofChange fnProtocolStringNamesTheTwoWrong)

end Rows
end Go.Proofs.Qxb6612963aFmt
