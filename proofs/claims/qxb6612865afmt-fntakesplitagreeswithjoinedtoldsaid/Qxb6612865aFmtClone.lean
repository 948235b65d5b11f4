/-
  DERIVED. zzClone: its contract. By an AI agent.
-/
import Derived.Test.Qxb6612865aFmtEq
import Derived.Lib.SliceRun
import Derived.Deep.OwnRows
namespace Go.Proofs.Qxb6612865aFmt
open Go.RowKit

theorem Tryf.info5 : (Tryf.prog.info? 5).map (fun i => (i.zero, i.size, i.bytes)) = some (some (.int .u8 0), 1, 1) := by kernel_rfl

theorem clone_nil (w : World) :
    Calls Tryf.prog 9 #[.slice none 0 0] w fun e w' => e = .returned (.slice none 0 0) ∧ w' = w := by
  have q22 : ∀ (w : World) (a : Option Addr) (n c n' c' : Nat), (binOp .eql 22 (.slice a n c) (.slice none n' c')).run Tryf.prog w = .ok (.bool a.isNone) w := fun w a n c n' c' => Lib.run_eql_slice_nil w _ _ a n c n' c' Tryf.underlying22
  go_enter Tryf.func9, Tryf.ntmps9
  go_wp2
  go_ret
  exact ⟨rfl, rfl⟩

/-- zzClone of a slice that is no nil: a new block, the bytes in it. -/
theorem clone_some (ad : Addr) (n c : Nat) (xs : List Int) (w : World) (hx : xs.length = n) (hm : n ≤ 1048576) (hB : Bts w (some ad) xs) :
    Calls Tryf.prog 9 #[.slice (some ad) n c] w fun e w' => ∃ arr : Array Value, e = .returned (.slice (some ⟨w.heap.size, 0, none⟩) n n) ∧ w' = w.alloc (.cells arr 5) ∧ arr.size = n ∧ ∀ j, j < n → arr[j]? = some (.int .u8 (xs.getD j 0)) := by
  have q22 : ∀ (w : World) (a : Option Addr) (n c n' c' : Nat), (binOp .eql 22 (.slice a n c) (.slice none n' c')).run Tryf.prog w = .ok (.bool a.isNone) w := fun w a n c n' c' => Lib.run_eql_slice_nil w _ _ a n c n' c' Tryf.underlying22
  have hmk := fun w => run_make_row' (P := Tryf.prog) 22 5 (.int .u8 0) 1 Tryf.underlying22 Tryf.info5 rfl .i64 .i64 n (by omega) (by omega) w
  obtain ⟨made, hmade⟩ : ∃ made, madeCells #[Value.int .u8 0] n = made := ⟨_, rfl⟩
  have hsz : made.size = n := by rw [← hmade]; exact size_madeCells _ _
  rw [hmade] at hmk
  clear hmade
  go_enter Tryf.func9, Tryf.ntmps9
  go_wp2
  go_loopw [4] (fun i wr => ∃ k : Nat, k ≤ n ∧ i = .int .i64 k ∧ ∃ arr : Array Value, wr = w.alloc (.cells arr 5) ∧ arr.size = n ∧ ∀ j, j < k → arr[j]? = some (.int .u8 (xs.getD j 0))) (fun i _ => n - (intOf i).toNat)
  case atStart => exact ⟨0, Nat.zero_le _, rfl, made, rfl, hsz, fun j hj => by omega⟩
  case round =>
    obtain ⟨k, hk, rfl, arr, rfl, hsa, hdone⟩ := hrel
    have HD : Hid (∀ j, j < k → arr[j]? = some (.int .u8 (xs.getD j 0))) := hdone
    clear hdone
    by_cases hlt : k < n
    · obtain ⟨b, off, had, hcell⟩ := hB (by intro h; subst h; simp at hx; omega)
      obtain rfl : ad = ⟨b, off, none⟩ := by simpa using had
      have g := hcell k (by omega)
      have hb := World.block_lt_of_cell? _ _ g
      clear hcell hB had
      go_wp2
      go_roundw
      case rel =>
        refine ⟨k + 1, by omega, by go_num, _, rfl, by simpa using hsa, ?_⟩
        intro j hj
        by_cases hjk : j < k
        · rw [Array.getElem?_setIfInBounds_ne (by omega)]
          exact HD.out j hjk
        · obtain rfl : j = k := by omega
          rw [Array.getElem?_setIfInBounds_self_of_lt (by omega)]
          simp [List.getD_eq_getElem?_getD, hx, hlt]
      case measure => simp [intOf]; omega
    · have hkn : k = n := by omega
      subst hkn
      clear hB
      go_wp2
      go_ret
      exact ⟨arr, rfl, rfl, hsa, HD.out⟩
end Go.Proofs.Qxb6612865aFmt
