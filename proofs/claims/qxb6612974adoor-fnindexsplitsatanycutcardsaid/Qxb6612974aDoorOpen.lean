/-
  DERIVED. What both proofs of this seat open: the listed tables. By an AI agent.
-/
import Derived.Test.Qxb6612974aDoorLaws
import Derived.Test.Qxb6612974aDoorTie
import Derived.Test.Qxb6612974aDoorCards
import Derived.ProofKit
import Derived.LaidMore
import Derived.ShutString
import Derived.ChangeOld
import Derived.Stop.Joined
import Derived.Stop.LaidErr
import Derived.SevenTiedAt
namespace Go.Proofs.Qxb6612974aDoor
open Go.ChangeShapes Go.WideShapes Go.ChangeAt Go.RowKit
open Go.ChangeMaps (open_string shut_string)

theorem own : ownKnob Tryd.prog.godebug = none := by kernel_rfl
theorem tab_eq : (Rows.laid_internal_strconv_uint64pow10 : DataW Unit) = Lib.tabData .u64 Lib.pow10Tab := by kernel_rfl
theorem tTab : (Tryd.prog.globals[0]?).map (·.type) = some 38 := by kernel_rfl
theorem cells28 : Tryd.prog.cellsOf 28 = 1 := by kernel_rfl
theorem cells38 : Tryd.prog.cellsOf 38 = 20 := by kernel_rfl

theorem tab_of_laid {W : World} (h : laidMetH Tryd.prog Rows.fnIndexSplitsAtAnyCutRow.laid W) : Tab W := by
  rw [MakeChecks.laidMetH_plain _ _ _ (by kernel_rfl)] at h
  have h3 : laidMet Tryd.prog [(vtab, Rows.laid_internal_strconv_uint64pow10)] W := h.tail.tail
  rw [tab_eq] at h3
  exact Lib.tabIs_of_head gTab tTab Tryd.underlying38 Tryd.underlying28 cells28 cells38 h3

theorem door_met (os : Os) (args : Array Value) : laidMetH Tryd.prog Rows.fnIndexSplitsAtAnyCutRow.laid ((World.doorLaid Tryd.prog 400 os).forCall (fun _ _ => 0) ⟨#[], args, []⟩).memory :=
  laidMetH_of_parts3 (fuel := 8) (laidMet_of_run' 8 (by kernel_rfl) (by kernel_rfl)) (by kernel_rfl) (by kernel_rfl)

theorem bounds {a : Int} (h : (Lit.int .i64 a).wf = true) : -9223372036854775808 ≤ a ∧ a ≤ 9223372036854775807 := by
  simp [Lit.wf, IntKind.min, IntKind.max, IntKind.signed, IntKind.bits] at h
  omega
end Go.Proofs.Qxb6612974aDoor
