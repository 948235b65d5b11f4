/-
  No cell of these rows narrows 'for every input' (looked for: loops, veiled, ifaces, maps, wideKeys, modest, calm, conditions, laid).
  DERIVED. THE GIVEN ROWS OF THIS SEAT. 3 by the template 'for every input the law returns true; each argument reads behind the call as it read before'; 0 by the template 'total and deterministic' (their statements: Qxb6612872aTotals.lean).
  GIVEN WITH THE SEED: the statements are not yours to turn. If you find one false, say at which input.
  Laid BY PROGRAM, IN A SANDBOX (cutbox-rows.mjs): the forced cells as the released guide's own fill.sh prints them over the translation 036b1ce99a653458… (all of the seat's roots in one cut). By AI agents, Wed Nov 11 2026. No macro, syntax, notation, axiom, sorry.
-/
import Derived.Test.Qxb6612872aChecked
import GoSem.Claim
import GoSem.ClaimJoined
import GoSem.ClaimMapViews
import Derived.JoinedTies
import Derived.KernelRfl
namespace Go.Proofs.Qxb6612872a
/- THE CELL 'sum', in the pinned program and in every row, IS THE sha256 OF THE DUMP (.gsa) THAT Qxb6612872aProg.lean LOADS. Nothing in Lean hashes anything: it is a label: what it is worth is what the hold of that sum in a sandbox is worth. -/
noncomputable def Try.pinned : Pinned := { name := "qxb6612872a", sum := "036b1ce99a6534588e9718ed9e41d7169718b5daf239d7113b43204273a4d511", checked := Try.checked }
namespace Rows
def none {H : Type} : Left H := { results := [], args := [] }

/-- 'zzlaws_loan_b1.FnFieldsFreshInOrder': WHATEVER THE INPUT: true; the input reads as it did. -/
def fnFieldsFreshInOrderSpec : ChangeSpec := { name := "fnFieldsFreshInOrder", fn := fun _ => fun
  | [] => { results := [.lit (.bool true)], args := [] }
  | _ => none }
def fnFieldsFreshInOrderRow : OpenClaim := { program := "qxb6612872a", sum := "036b1ce99a6534588e9718ed9e41d7169718b5daf239d7113b43204273a4d511", func := "example.com/suretyline/suretyline/zzlaws_loan_b1.FnFieldsFreshInOrder", spec := "fnFieldsFreshInOrder", apart := false }
def FnFieldsFreshInOrderSaid : Prop := fnFieldsFreshInOrderRow.holds Try.pinned (OpenSpec.ofChange fnFieldsFreshInOrderSpec)

/-- ITS FALSE NEIGHBOUR: 'it returns false'. Refute it at one input. -/
def fnFieldsFreshInOrderWrong : ChangeSpec := { name := "fnFieldsFreshInOrder", fn := fun _ => fun
  | [] => { results := [.lit (.bool false)], args := [] }
  | _ => none }
def FnFieldsFreshInOrderWrongFalsely : Prop := fnFieldsFreshInOrderRow.holds Try.pinned (OpenSpec.ofChange fnFieldsFreshInOrderWrong)

/-- 'zzlaws_loan_b1.FnFieldsErrorsTellColumnsApart': WHATEVER THE INPUT: true; the input reads as it did. -/
def fnFieldsErrorsTellColumnsApartSpec : ChangeSpec := { name := "fnFieldsErrorsTellColumnsApart", fn := fun _ => fun
  | [d] => { results := [.lit (.bool true)], args := [d] }
  | _ => none }
def fnFieldsErrorsTellColumnsApartRow : OpenClaim := { program := "qxb6612872a", sum := "036b1ce99a6534588e9718ed9e41d7169718b5daf239d7113b43204273a4d511", func := "example.com/suretyline/suretyline/zzlaws_loan_b1.FnFieldsErrorsTellColumnsApart", spec := "fnFieldsErrorsTellColumnsApart", unfollowed := true, recurses := true, apart := false }
def FnFieldsErrorsTellColumnsApartSaid : Prop := fnFieldsErrorsTellColumnsApartRow.holds Try.pinned (OpenSpec.ofChange fnFieldsErrorsTellColumnsApartSpec)

/-- ITS FALSE NEIGHBOUR: 'it returns false'. Refute it at one input. -/
def fnFieldsErrorsTellColumnsApartWrong : ChangeSpec := { name := "fnFieldsErrorsTellColumnsApart", fn := fun _ => fun
  | [d] => { results := [.lit (.bool false)], args := [d] }
  | _ => none }
def FnFieldsErrorsTellColumnsApartWrongFalsely : Prop := fnFieldsErrorsTellColumnsApartRow.holds Try.pinned (OpenSpec.ofChange fnFieldsErrorsTellColumnsApartWrong)

/-- 'zzlaws_loan_b1.FnFieldErrorReadBack': WHATEVER THE INPUT: true; the input reads as it did. -/
def fnFieldErrorReadBackSpec : ChangeSpec := { name := "fnFieldErrorReadBack", fn := fun _ => fun
  | [d1, d2, d3, d4] => { results := [.lit (.bool true)], args := [d1, d2, d3, d4] }
  | _ => none }
def fnFieldErrorReadBackRow : OpenClaim := { program := "qxb6612872a", sum := "036b1ce99a6534588e9718ed9e41d7169718b5daf239d7113b43204273a4d511", func := "example.com/suretyline/suretyline/zzlaws_loan_b1.FnFieldErrorReadBack", spec := "fnFieldErrorReadBack", unfollowed := true, recurses := true, apart := false }
def FnFieldErrorReadBackSaid : Prop := fnFieldErrorReadBackRow.holds Try.pinned (OpenSpec.ofChange fnFieldErrorReadBackSpec)

/-- ITS FALSE NEIGHBOUR: 'it returns false'. Refute it at one input. -/
def fnFieldErrorReadBackWrong : ChangeSpec := { name := "fnFieldErrorReadBack", fn := fun _ => fun
  | [d1, d2, d3, d4] => { results := [.lit (.bool false)], args := [d1, d2, d3, d4] }
  | _ => none }
def FnFieldErrorReadBackWrongFalsely : Prop := fnFieldErrorReadBackRow.holds Try.pinned (OpenSpec.ofChange fnFieldErrorReadBackWrong)

end Rows
end Go.Proofs.Qxb6612872a
