/-
  DERIVED. loan.Fields: its contract, and the names as one function. By an AI agent.
-/
import Derived.Test.Qxb6612872aRows
import Derived.WalkKit
import Derived.WalkSpells
import Derived.Deep.QuietTactic
import Derived.BigQuiet
import Derived.Deep.RegionWith
namespace Go.Proofs.Qxb6612872a
open Go.RowKit

/-- the six names' bytes -/
def nmL : Nat → List UInt8
  | 0 => [112, 114, 105, 110, 99, 105, 112, 97, 108]
  | 1 => [97, 110, 110, 117, 97, 108, 95, 114, 97, 116, 101]
  | 2 => [114, 101, 112, 97, 121, 109, 101, 110, 116]
  | 3 => [105, 110, 115, 116, 97, 108, 109, 101, 110, 116, 115]
  | 4 => [100, 105, 115, 98, 117, 114, 115, 101, 100]
  | 5 => [102, 105, 114, 115, 116, 95, 100, 117, 101]
  | _ => []
def nm (i : Nat) : ByteArray := ⟨(nmL i).toArray⟩

theorem fields_any (w : World) :
    Calls Try.prog 6 #[] w fun e w' => e = .returned (.slice (some ⟨w.heap.size, 0, none⟩) 6 6) ∧ w' = w.alloc (.cells #[.string (nm 0), .string (nm 1), .string (nm 2), .string (nm 3), .string (nm 4), .string (nm 5)] 9) := by
  go_enter Try.func6, Try.ntmps6
  go_wp2
  go_ret
  exact ⟨rfl, rfl⟩

theorem row_cell (M : Nat) (i : Nat) (hi : i < 6) (w : World) (T : TypeId) (hM : M = w.heap.size) :
    (w.alloc (.cells #[.string (nm 0), .string (nm 1), .string (nm 2), .string (nm 3), .string (nm 4), .string (nm 5)] T)).cell? ⟨M, i, none⟩ = some (.string (nm i)) := by
  subst hM
  match i, hi with
  | 0, _ => simp
  | 1, _ => simp
  | 2, _ => simp
  | 3, _ => simp
  | 4, _ => simp
  | 5, _ => simp
end Go.Proofs.Qxb6612872a
