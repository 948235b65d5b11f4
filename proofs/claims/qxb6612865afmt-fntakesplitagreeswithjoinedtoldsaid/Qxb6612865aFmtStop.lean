/-
  DERIVED. The closed facts for a walk over fmt.errorf, the stopped front, at this dump's numbers (after TrailerFmt.lean). By an AI agent.
-/
import Derived.Test.Qxb6612865aFmtRows
import Derived.Stop.CallBack
import Derived.Stop.IfaceNil
import GoSem.ClaimData
namespace Go.Proofs.Qxb6612865aFmt
open Go.Extern.Stop Go.Stop Go.Extern

theorem call26 (args : Array Value) (w : World) : (callFunc 26 args).run Tryf.prog w = ((FmtStop.errorf #[9, 47] #[31] args).run Tryf.prog w).andThen fun v w' => .ok (.value v) w' :=
  run_callFunc_extern Tryf.func26 (by kernel_rfl) (by kernel_rfl) (by kernel_rfl) (by kernel_rfl) args w
theorem guard (name : String) (w : World) : (FmtStop.guard name).run Tryf.prog w = .ok () w := by kernel_rfl
theorem fmt0 : FmtStop.printed? ⟨#[37, 119, 58, 32, 37, 100, 32, 98, 121, 116, 101, 115, 32, 108, 101, 102, 116, 44, 32, 119, 97, 110, 116, 32, 37, 100]⟩ 3 = some [(0, 119, false), (1, 100, false), (2, 100, false)] := by kernel_rfl
theorem fmt0r (w : World) : (FmtDoors.printed ⟨#[37, 119, 58, 32, 37, 100, 32, 98, 121, 116, 101, 115, 32, 108, 101, 102, 116, 44, 32, 119, 97, 110, 116, 32, 37, 100]⟩ 3).run Tryf.prog w = .ok [(0, 119, false), (1, 100, false), (2, 100, false)] w := by kernel_rfl
def shape3 : List UInt8 := [5, 3, 0, 0, 0, 0, 0, 0, 0, 105, 110, 116]
theorem op3_100w (name : String) (x : Int) (w : World) : (FmtStop.operand name true 100 false (.iface 3 (.int .i64 x))).run Tryf.prog w = .ok (shape3, Go.Extern.Stop.digits 8 (x % 2 ^ 64).toNat) w := by kernel_rfl
theorem ptr53 (w : World) : (FmtStop.ptrTo "errors.errorString").run Tryf.prog w = .ok 53 w := by kernel_rfl
theorem elem53 (w : World) : (elemOf 53).run Tryf.prog w = .ok 55 w := by kernel_rfl
theorem isError53' (w : World) : (FmtDoors.textMethod 53 "Error").run Tryf.prog w = .ok true w := by kernel_rfl
/-- the sentinel's type's name, as the given row lists it -/
abbrev nm53 : String := match (Rows.laid_example_com_circlet_circlet_errMalformed : DataW Unit) with | .iface nm _ => nm | _ => ""
def plain53 : List UInt8 := 14 :: FmtStop.pack nm53.toUTF8.data.toList
theorem opPlain53_119w (name : String) (a : Addr) (s : ByteArray) (w : World) (hc : w.cell? a = some (.string s)) :
    (FmtStop.operand name true 119 false (.iface 53 (.pointer (some a)))).run Tryf.prog w = .ok (plain53, s.data.toList) w := by
  have h1 : (typeStr 53).run Tryf.prog w = .ok nm53 w := by kernel_rfl
  have d2 : Tryf.t53.desc = .pointer 55 := rfl
  have d3 : Tryf.t55.desc = .named "errors.errorString" 54 := rfl
  simp [FmtStop.operand, h1, d2, d3, run_load, hc, plain53]
theorem ptr50 (w : World) : (FmtStop.ptrTo "fmt.wrapError").run Tryf.prog w = .ok 50 w := by kernel_rfl
theorem elem50 (w : World) : (elemOf 50).run Tryf.prog w = .ok 77 w := by kernel_rfl
theorem isError50' (w : World) : (FmtDoors.textMethod 50 "Error").run Tryf.prog w = .ok true w := by kernel_rfl
end Go.Proofs.Qxb6612865aFmt
