/-
  DERIVED. (*FieldError).Error and ZZfieldErrorText: their contracts. By an AI agent.
-/
import Derived.Test.Qxb6612872aIndex
namespace Go.Proofs.Qxb6612872a
open Go.RowKit

theorem method_err (a : Addr) (w : World) : (method 156 37 (.pointer (some a)) "Error").run Try.prog w = .ok (28, .pointer (some a)) w := by kernel_rfl

theorem estr_any (a : Addr) (m : ByteArray) (w : World) (h : w.cell? a = some (.string m)) :
    Calls Try.prog 28 #[.pointer (some a)] w fun e w' => e = .returned (.string m) ∧ w' = w := by
  obtain ⟨b, off, spot⟩ := a
  have hs : spot = none := by simpa using World.cell?_spot h
  subst hs
  go_enter Try.func28, Try.ntmps28
  go_wp2
  go_ret
  exact ⟨rfl, rfl⟩

set_option maxHeartbeats 800000 in
theorem error_any (b : Nat) (a : Addr) (f m : ByteArray) (w : World) (hf : f.size ≤ 1048576) (hm : m.size ≤ 1048576)
    (h0 : w.cell? ⟨b, 0, none⟩ = some (.string f)) (h1 : w.cell? ⟨b, 1, none⟩ = some (.iface 37 (.pointer (some a)))) (h2 : w.cell? a = some (.string m)) :
    Calls Try.prog 12 #[.pointer (some ⟨b, 0, none⟩)] w fun e w' => e = .returned (.string (f ++ ⟨#[58, 32]⟩ ++ m)) ∧ ∃ k, w' = w.drewN k := by
  have hmt := method_err
  go_enter Try.func12, Try.ntmps12
  go_wp2
  go_quiet ((go_at_call 28; exact Calls.quiet_of_same (estr_any a m _ h2)))
  go_wp2
  go_ret
  exact ⟨rfl, nq, rfl⟩

set_option maxHeartbeats 800000 in
theorem text_any (f m : ByteArray) (w : World) (hf : f.size ≤ 1048576) (hm : m.size ≤ 1048576) :
    Calls Try.prog 9 #[.string f, .string m] w fun e w' => e = .returned (.string (f ++ ⟨#[58, 32]⟩ ++ m)) ∧ Below w.heap.size w w' := by
  go_enter Try.func9, Try.ntmps9
  go_wp2_with (go_at_call 11; go_in)
  refine (error_any (w.heap.size + 1) ⟨w.heap.size, 0, none⟩ f m _ hf hm ?_ ?_ ?_).mono ?_
  · go_simp
  · go_simp
  · go_simp
  · rintro e w1 ⟨rfl, k, rfl⟩
    go_wp2
    go_ret
    exact ⟨rfl, (((Below.refl _ w).alloc (Nat.le_refl _) _).alloc (by simp) _).trans ⟨rfl, rfl, rfl, Nat.le_refl _, fun _ _ => rfl⟩⟩
end Go.Proofs.Qxb6612872a
