/-
  DERIVED. GIVEN WITH THE SEED: THE CARDS: each row of Qxb6612974aDoorRows.lean that lists a variable, with what it lists TIED to the program's text (the seventh form; the later family's looks); each row that meets fmt, with fmt's text TOLD by the authors' own Lean function (tested against real Go, not proved from fmt's source: count such statements apart). THE CARD IS WHAT COUNTS. Prove the row's statement (the work); the ties are given (Qxb6612974aDoorTie.lean); close each card by the builder's one call (the guide's Derived/Test/ToyasCard.lean, 'card_holds'). Laid BY PROGRAM, IN A SANDBOX (cutbox-door.mjs). By AI agents, Wed Nov 11 2026. No macro, syntax, notation, axiom, sorry.
-/
import Derived.Test.Qxb6612974aDoorRows
import GoSem.ClaimSeven
namespace Go.Proofs.Qxb6612974aDoor
namespace Rows

/-- THE TIED CARD OF 'zzlaws_root_b1.FnIndexSplitsAtAnyCut'. -/
def fnIndexSplitsAtAnyCutCard : Claim7 := { stood := { row := fnIndexSplitsAtAnyCutRow, standIns := [], harness := (true, "f79ce39e710a6014e0bb1df4adbb31b459357e0496337e6907741a28468c1902"), looks := false }, kinds := [], alts := [], laidByText := true, laidKinds := [.data, .data, .data], laidTests := true, laidLooks := .later }
def FnIndexSplitsAtAnyCutCardSaid : Prop := Claim7.holds Tryd.pinned (.plain (OpenSpec.ofChange fnIndexSplitsAtAnyCutSpec)) fnIndexSplitsAtAnyCutCard

/-- THE TIED CARD OF 'zzlaws_root_b1.FnIndexDistinctItemsGetDistinctPaths'. -/
def fnIndexDistinctItemsGetDistinctPathsCard : Claim7 := { stood := { row := fnIndexDistinctItemsGetDistinctPathsRow, standIns := [], harness := (true, "f79ce39e710a6014e0bb1df4adbb31b459357e0496337e6907741a28468c1902"), looks := false }, kinds := [], alts := [], laidByText := true, laidKinds := [.data, .data, .data], laidTests := true, laidLooks := .later }
def FnIndexDistinctItemsGetDistinctPathsCardSaid : Prop := Claim7.holds Tryd.pinned (.plain (OpenSpec.ofChange fnIndexDistinctItemsGetDistinctPathsSpec)) fnIndexDistinctItemsGetDistinctPathsCard
end Rows
end Go.Proofs.Qxb6612974aDoor
