/-
  DERIVED. zzEq and the small functions of the seat: their contracts. By an AI agent.
-/
import Derived.Test.Qxb6612865aFmtRows
import Derived.WalkKit
import Derived.WalkSpells
import Derived.Deep.QuietTactic
import Derived.BigQuiet
namespace Go.Proofs.Qxb6612865aFmt
open Go.RowKit

/-- the bytes xs lie behind the slice (a, its length xs.length): where it is empty nothing is asked. -/
def Bts (w : World) (a : Option Addr) (xs : List Int) : Prop :=
  xs ≠ [] → ∃ b off, a = some ⟨b, off, none⟩ ∧ ∀ i, i < xs.length → w.cell? ⟨b, off + i, none⟩ = some (.int .u8 (xs.getD i 0))

theorem list_eq_of (xs ys : List Int) (hl : xs.length = ys.length) (h : ∀ j, j < xs.length → xs.getD j 0 = ys.getD j 0) : xs = ys := by
  apply List.ext_getElem hl
  intro i h1 h2
  have := h i h1
  simpa [List.getD_eq_getElem?_getD, h1, h2] using this

set_option maxHeartbeats 800000 in
theorem eq_len (a1 a2 : Option Addr) (n1 n2 c1 c2 : Nat) (w : World) (hn : n1 ≠ n2) :
    Calls Tryf.prog 11 #[.slice a1 n1 c1, .slice a2 n2 c2] w fun e w' => e = .returned (.bool false) ∧ w' = w := by
  have h : ((n1 : Int) != (n2 : Int)) = true := by simp; omega
  go_enter Tryf.func11, Tryf.ntmps11
  go_wp2
  go_ret
  exact ⟨rfl, rfl⟩

theorem eq_nil (a1 a2 : Option Addr) (c1 c2 : Nat) (w : World) :
    Calls Tryf.prog 11 #[.slice a1 0 c1, .slice a2 0 c2] w fun e w' => e = .returned (.bool true) ∧ w' = w := by
  go_enter Tryf.func11, Tryf.ntmps11
  go_wp2
  refine wp_loop_rounds 1 ?_; rw [rounds_succ]
  go_wp2
  go_ret
  exact ⟨rfl, rfl⟩

set_option maxHeartbeats 1600000 in
theorem eq_some (b1 o1 b2 o2 n c1 c2 : Nat) (xs ys : List Int) (w : World) (hx : xs.length = n) (hy : ys.length = n) (hm : n ≤ maxLen)
    (h1 : ∀ i, i < n → w.cell? ⟨b1, o1 + i, none⟩ = some (.int .u8 (xs.getD i 0))) (h2 : ∀ i, i < n → w.cell? ⟨b2, o2 + i, none⟩ = some (.int .u8 (ys.getD i 0))) :
    Calls Tryf.prog 11 #[.slice (some ⟨b1, o1, none⟩) n c1, .slice (some ⟨b2, o2, none⟩) n c2] w fun e w' => e = .returned (.bool (decide (xs = ys))) ∧ ∃ k, w' = w.drewN k := by
  unfold maxLen at hm
  go_enter Tryf.func11, Tryf.ntmps11
  go_wp2
  go_loopw [5] (fun i wr => ∃ k : Nat, k ≤ n ∧ i = .int .i64 k ∧ (∀ j, j < k → xs.getD j 0 = ys.getD j 0) ∧ ∃ q, wr = w.drewN q) (fun i _ => n - (intOf i).toNat)
  case atStart => exact ⟨0, Nat.zero_le _, rfl, fun j hj => by omega, 0, rfl⟩
  case round =>
    obtain ⟨k, hk, rfl, hsame, q, rfl⟩ := hrel
    have HS : Hid (∀ j, j < k → xs.getD j 0 = ys.getD j 0) := hsame
    clear hsame
    by_cases hlt : k < n
    · have g1 := h1 k hlt
      have g2 := h2 k hlt
      clear h1 h2
      go_wp2_with fail
      go_quiet (fail)
      go_wp2
      · have hd : (xs[k] != ys[k]) = true := by assumption
        go_ret
        refine ⟨?_, q + nq, by simp⟩
        have hne : xs ≠ ys := by
          intro h
          subst h
          simp at hd
        simp [hne]
      · have hd : (xs[k] != ys[k]) = false := by assumption
        have hd' : xs[k] = ys[k] := by simpa using hd
        go_roundw
        case rel =>
          refine ⟨k + 1, by omega, by go_num, ?_, q + nq, rfl⟩
          intro j hj
          by_cases hjk : j < k
          · exact HS.out j hjk
          · obtain rfl : j = k := by omega
            simp [List.getD_eq_getElem?_getD, hx, hy, hlt, hd']
        case measure => simp [intOf]; omega
    · have hkn : k = n := by omega
      subst hkn
      clear h1 h2
      go_wp2
      go_ret
      have he : xs = ys := list_eq_of xs ys (by omega) (by rw [hx]; exact HS.out)
      exact ⟨by simp [he], q, rfl⟩

/-- zzEq, whatever two slices of bytes: it says whether the bytes are the same; it draws, and writes nothing. -/
theorem eq_any (a1 a2 : Option Addr) (n1 n2 c1 c2 : Nat) (xs ys : List Int) (w : World) (hx : xs.length = n1) (hy : ys.length = n2) (hm : n1 ≤ maxLen) (B1 : Bts w a1 xs) (B2 : Bts w a2 ys) :
    Calls Tryf.prog 11 #[.slice a1 n1 c1, .slice a2 n2 c2] w fun e w' => e = .returned (.bool (decide (xs = ys))) ∧ ∃ k, w' = w.drewN k := by
  by_cases hn : n1 = n2
  · subst hn
    by_cases h0 : n1 = 0
    · subst h0
      have ex : xs = [] := List.length_eq_zero_iff.1 hx
      have ey : ys = [] := List.length_eq_zero_iff.1 hy
      refine (eq_nil a1 a2 c1 c2 w).mono fun e w' ⟨he, hw⟩ => ⟨?_, 0, hw⟩
      rw [he, ex, ey]; rfl
    · obtain ⟨b1, o1, rfl, h1⟩ := B1 (by intro h; subst h; simp at hx; omega)
      obtain ⟨b2, o2, rfl, h2⟩ := B2 (by intro h; subst h; simp at hy; omega)
      exact eq_some b1 o1 b2 o2 n1 c1 c2 xs ys w hx hy hm (by rw [← hx]; exact h1) (by rw [← hy]; exact h2)
  · have hne : xs ≠ ys := by
      intro h
      subst h
      omega
    refine (eq_len a1 a2 n1 n2 c1 c2 w hn).mono fun e w' ⟨he, hw⟩ => ⟨?_, 0, hw⟩
    rw [he]; simp [hne]

theorem err_nil (b : Nat) (w : World) (hc : w.cell? ⟨b, 1, none⟩ = some .nilIface) :
    Calls Tryf.prog 12 #[.pointer (some ⟨b, 0, none⟩)] w fun e w' => e = .returned .nilIface ∧ w' = w := by
  go_enter Tryf.func12, Tryf.ntmps12
  go_wp2
  go_ret
  exact ⟨rfl, rfl⟩

theorem err_set (b : Nat) (t : TypeId) (p : Option Addr) (w : World) (hc : w.cell? ⟨b, 1, none⟩ = some (.iface t (.pointer p))) :
    Calls Tryf.prog 12 #[.pointer (some ⟨b, 0, none⟩)] w fun e w' => e = .returned (.iface t (.pointer p)) ∧ w' = w := by
  go_enter Tryf.func12, Tryf.ntmps12
  go_wp2
  go_ret
  exact ⟨rfl, rfl⟩

theorem buf_any (b : Nat) (a : Option Addr) (n c : Nat) (w : World) (hc : w.cell? ⟨b, 0, none⟩ = some (.slice a n c)) :
    Calls Tryf.prog 13 #[.pointer (some ⟨b, 0, none⟩)] w fun e w' => e = .returned (.slice a n c) ∧ w' = w := by
  go_enter Tryf.func13, Tryf.ntmps13
  go_wp2
  go_ret
  exact ⟨rfl, rfl⟩

theorem new_any (a : Option Addr) (n c : Nat) (w : World) :
    Calls Tryf.prog 8 #[.slice a n c] w fun e w' => e = .returned (.pointer (some ⟨w.heap.size, 0, none⟩)) ∧ w' = w.alloc (.cells #[.slice a n c, .nilIface] 40) := by
  go_enter Tryf.func8, Tryf.ntmps8
  go_wp2
  go_ret
  exact ⟨rfl, rfl⟩
end Go.Proofs.Qxb6612865aFmt
