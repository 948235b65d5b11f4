/-
  DERIVED. GIVEN WITH THE SEED: THE CARDS: each row of Qxb6612963aFmtRows.lean that lists a variable, with what it lists TIED to the program's text (the seventh form; the later family's looks); each row that meets fmt, with fmt's text TOLD by the authors' own Lean function (tested against real Go, not proved from fmt's source: count such statements apart). THE CARD IS WHAT COUNTS. Prove the row's statement (the work); the ties are given (Qxb6612963aFmtTie.lean); close each card by the builder's one call (the guide's Derived/Test/ToyasCard.lean, 'card_holds'). Laid BY PROGRAM, IN A SANDBOX (cutbox-door.mjs). By AI agents, Wed Nov 11 2026. No macro, syntax, notation, axiom, sorry.
-/
import Derived.Test.Qxb6612963aFmtRows
import GoSem.ClaimSeven
namespace Go.Proofs.Qxb6612963aFmt
namespace Rows

/-- THE TOLD AND TIED CARD OF 'zzlaws_root_b1.FnProtocolStringNamesTheTwo'. -/
def fnProtocolStringNamesTheTwoCard : Claim7 := { stood := { row := fnProtocolStringNamesTheTwoRow, standIns := [], harness := (true, "7eec2479912358af1096bb5fad8b5bc0a80a3241b175bfb96ad774a8d8280972"), looks := false }, told := true, laidByText := true, laidKinds := [.widerDeep], laidTests := true, laidLooks := .later, goes := false }
def FnProtocolStringNamesTheTwoToldSaid : Prop := Claim7.holds Tryf.pinned (.plain (OpenSpec.ofChange fnProtocolStringNamesTheTwoSpec)) fnProtocolStringNamesTheTwoCard
/-- ITS FALSE NEIGHBOUR. Refute it at one input. -/
def FnProtocolStringNamesTheTwoToldWrongFalsely : Prop := Claim7.holds Tryf.pinned (.plain (OpenSpec.ofChange fnProtocolStringNamesTheTwoWrong)) fnProtocolStringNamesTheTwoCard
end Rows
end Go.Proofs.Qxb6612963aFmt
