/-
  DERIVED. FnFieldsFreshInOrder: the walk. By an AI agent.
-/
import Derived.Test.Qxb6612872aFields
import Derived.WalkSmall
namespace Go.Proofs.Qxb6612872a
open Go.RowKit

theorem nm_size (i : Nat) : (nm i).size ≤ 20 := by
  unfold nm
  match i with
  | 0 => decide
  | 1 => decide
  | 2 => decide
  | 3 => decide
  | 4 => decide
  | 5 => decide
  | n + 6 => simp [nmL, ByteArray.size]

set_option maxRecDepth 100000 in
set_option maxHeartbeats 1600000 in
theorem fresh_walk (w : World) :
    Calls Try.prog 3 #[] w fun e w' => e = .returned (.bool true) ∧ Below w.heap.size w w' := by
  go_enter Try.func3, Try.ntmps3
  go_wp2_with (go_at_call 6; refine (fields_any w).mono ?_; rintro e w1 ⟨rfl, rfl⟩)
  go_loopw [3] (fun i wr => ∃ k : Nat, k ≤ 6 ∧ i = .int .i64 k ∧ Below w.heap.size w wr ∧ wr.heap.size = w.heap.size + 2 ∧ (∀ j, k ≤ j → j < 6 → wr.cell? ⟨w.heap.size, j, none⟩ = some (.string (nm j))) ∧ (∀ j, j < 6 → wr.cell? ⟨w.heap.size + 1, j, none⟩ = some (.string (nm j))) ∧ ∀ j, wr.frozen? ⟨w.heap.size, j, none⟩ = false) (fun i _ => 6 - (intOf i).toNat)
  case atStart =>
    refine ⟨0, Nat.zero_le _, rfl, ((Below.refl _ w).alloc (Nat.le_refl _) _).alloc (by simp) _, by simp, fun j _ hj => ?_, fun j hj => ?_, fun j => by simp⟩
    · rw [World.cell?_alloc_lt _ _ _ (by simp)]
      exact row_cell _ j hj w 9 rfl
    · exact row_cell _ j hj _ 24 (by simp)
  case round =>
    obtain ⟨k, hk, rfl, bel, hsz, hN, hM, hz⟩ := hrel
    by_cases hlt : k < 6
    · have g1 := hN k (Nat.le_refl _) hlt
      have g2 := hM k hlt
      have gz := hz k
      have hs := nm_size k
      have HN : Hid (∀ j, k ≤ j → j < 6 → wr.cell? ⟨w.heap.size, j, none⟩ = some (.string (nm j))) := hN
      have HM : Hid (∀ j, j < 6 → wr.cell? ⟨w.heap.size + 1, j, none⟩ = some (.string (nm j))) := hM
      have HZ : Hid (∀ j, wr.frozen? ⟨w.heap.size, j, none⟩ = false) := hz
      have HS : Hid (wr.heap.size = w.heap.size + 2) := hsz
      clear hN hM hz hsz
      generalize hx : nm k = x at g1 g2 hs
      have HX : Hid (nm k = x) := hx
      clear hx
      go_wp2_with fail
      go_quiet (fail)
      go_wp2
      go_roundw
      case rel =>
        refine ⟨k + 1, by omega, by go_num, (below_drewN bel nq).setCell (Nat.le_refl _) _, by simpa using HS.out, fun j h1 h2 => ?_, fun j hj => ?_, fun j => ?_⟩
        · rw [World.cell?_setCell_other _ _ _ _ (by simp <;> omega)]
          exact HN.out j (by omega) h2
        · rw [World.cell?_setCell_other _ _ _ _ (by simp)]
          exact HM.out j hj
        · rw [World.frozen?_setCell]
          exact HZ.out j
      case measure => simp [intOf]; omega
    · clear hN hz
      have HM : Hid (∀ j, j < 6 → wr.cell? ⟨w.heap.size + 1, j, none⟩ = some (.string (nm j))) := hM
      clear hM
      go_wp2_with (go_at_call 6; refine (fields_any wr).mono ?_; rintro e w1 ⟨rfl, rfl⟩)
      have bel1 : Below w.heap.size w (wr.alloc (.cells #[.string (nm 0), .string (nm 1), .string (nm 2), .string (nm 3), .string (nm 4), .string (nm 5)] 9)) := bel.alloc bel.size _
      have HN : Hid (∀ j, j < 6 → (wr.alloc (.cells #[.string (nm 0), .string (nm 1), .string (nm 2), .string (nm 3), .string (nm 4), .string (nm 5)] 9)).cell? ⟨w.heap.size + 2, j, none⟩ = some (.string (nm j))) := fun j hj => row_cell _ j hj wr 9 hsz.symm
      replace HM : Hid (∀ j, j < 6 → (wr.alloc (.cells #[.string (nm 0), .string (nm 1), .string (nm 2), .string (nm 3), .string (nm 4), .string (nm 5)] 9)).cell? ⟨w.heap.size + 1, j, none⟩ = some (.string (nm j))) := by
        intro j hj
        rw [World.cell?_alloc_lt _ _ _ (by show w.heap.size + 1 < wr.heap.size; omega)]
        exact HM.out j hj
      clear hsz bel
      generalize wr.alloc (.cells #[.string (nm 0), .string (nm 1), .string (nm 2), .string (nm 3), .string (nm 4), .string (nm 5)] 9) = w2 at bel1 HN HM ⊢
      go_loopw [5] (fun i wr => ∃ k : Nat, k ≤ 6 ∧ i = .int .i64 k ∧ Below w.heap.size w wr ∧ (∀ j, j < 6 → wr.cell? ⟨w.heap.size + 2, j, none⟩ = some (.string (nm j))) ∧ (∀ j, j < 6 → wr.cell? ⟨w.heap.size + 1, j, none⟩ = some (.string (nm j)))) (fun i _ => 6 - (intOf i).toNat)
      case atStart => exact ⟨0, Nat.zero_le _, rfl, bel1, HN.out, HM.out⟩
      case round =>
        clear HN HM bel1
        obtain ⟨k, hk, rfl, bel, hN, hM⟩ := hrel
        by_cases hlt : k < 6
        · have g1 := hN k hlt
          have g2 := hM k hlt
          have HN : Hid (∀ j, j < 6 → wr.cell? ⟨w.heap.size + 2, j, none⟩ = some (.string (nm j))) := hN
          have HM : Hid (∀ j, j < 6 → wr.cell? ⟨w.heap.size + 1, j, none⟩ = some (.string (nm j))) := hM
          clear hN hM
          generalize nm k = x at g1 g2
          go_wp2_with fail
          go_quiet (fail)
          go_wp2
          go_roundw
          case rel => exact ⟨k + 1, by omega, by go_num, below_drewN bel nq, HN.out, HM.out⟩
          case measure => simp [intOf]; omega
        · clear hN hM
          go_wp2
          go_ret
          exact ⟨rfl, bel⟩
end Go.Proofs.Qxb6612872a
