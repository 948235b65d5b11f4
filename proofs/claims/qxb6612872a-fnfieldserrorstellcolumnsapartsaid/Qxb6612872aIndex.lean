/-
  DERIVED. zzIndexByte at ':' : its contract. By an AI agent.
-/
import Derived.Test.Qxb6612872aFields
namespace Go.Proofs.Qxb6612872a
open Go.RowKit

/-- how many bytes stand ahead of the first ':' -/
def ahead (l : List UInt8) : Nat := (l.takeWhile (· != 58)).length

/-- where the first ':' stands; -1 where there is none -/
def colon (l : List UInt8) : Int := if 58 ∈ l then (ahead l : Int) else -1

theorem take_snoc (s : ByteArray) (k : Nat) (h : k < s.size) : s.data.toList.take (k + 1) = s.data.toList.take k ++ [s[k]] := by
  rw [List.take_succ_eq_append_getElem (by simpa using h)]; rfl

theorem colon_at (l r : List UInt8) (h : 58 ∉ l) : colon (l ++ 58 :: r) = l.length := by
  have e : (l ++ 58 :: r).takeWhile (· != 58) = l := by
    rw [List.takeWhile_append_of_pos (by intro a ha; simp; intro e; subst e; exact h ha)]
    simp
  simp [colon, ahead, e]

theorem colon_none (l : List UInt8) (h : 58 ∉ l) : colon l = -1 := by simp [colon, h]

theorem byte_eq {c : UInt8} (h : ((c.toNat : Int) == 58) = true) : c = 58 := by
  have h' : (c.toNat : Int) = 58 := by simpa using h
  exact UInt8.toNat_inj.1 (by show c.toNat = 58; omega)
theorem byte_ne {c : UInt8} (h : ((c.toNat : Int) == 58) = false) : c ≠ 58 := by
  intro e
  subst e
  simp at h

theorem colon_hit (s : ByteArray) (k : Nat) (hlt : k < s.size) (h58 : s[k] = 58) (hno : 58 ∉ s.data.toList.take k) : colon s.data.toList = k := by
  have hl : k < s.data.toList.length := by simpa using hlt
  have e : s.data.toList = s.data.toList.take k ++ 58 :: s.data.toList.drop (k + 1) := by
    have h1 : s.data.toList.drop k = s.data.toList[k] :: s.data.toList.drop (k + 1) := List.drop_eq_getElem_cons hl
    have h2 : s.data.toList[k] = 58 := h58
    rw [h2] at h1
    rw [← h1, List.take_append_drop]
  rw [e, colon_at _ _ hno]
  simp
  omega

theorem ret_int {k : IntKind} {a b : Int} (h : a = b) : Ending.returned (.int k a) = .returned (.int k b) := by rw [h]

set_option maxHeartbeats 400000 in
theorem index_any (s : ByteArray) (w : World) (hs : s.size ≤ maxLen) :
    Calls Try.prog 8 #[.string s, .int .u8 58] w fun e w' => e = .returned (.int .i64 (colon s.data.toList)) ∧ w' = w := by
  unfold maxLen at hs
  go_enter Try.func8, Try.ntmps8
  go_wp2
  go_loop [5] (fun i => ∃ k : Nat, k ≤ s.size ∧ i = .int .i64 k ∧ 58 ∉ s.data.toList.take k) (fun i => s.size - (intOf i).toNat)
  case atStart => exact ⟨0, Nat.zero_le _, rfl, by simp⟩
  case round =>
    obtain ⟨k, hk, rfl, hno⟩ := hrel
    have HN : Hid (58 ∉ s.data.toList.take k) := hno
    clear hno
    by_cases hlt : k < s.size
    · have hts := take_snoc s k hlt
      have HT : Hid (s.data.toList.take (k + 1) = s.data.toList.take k ++ [s[k]]) := hts
      clear hts
      go_wp2
      · have hb : ((s[k].toNat : Int) == 58) = true := by assumption
        go_ret
        exact ⟨ret_int (colon_hit s k hlt (byte_eq hb) HN.out).symm, rfl⟩
      · have hb : ((s[k].toNat : Int) == 58) = false := by assumption
        go_round
        case rel =>
          refine ⟨k + 1, by omega, by go_num, ?_⟩
          rw [HT.out]
          intro hm
          rcases List.mem_append.1 hm with h1 | h1
          · exact HN.out h1
          · exact byte_ne hb (List.mem_singleton.1 h1).symm
        case measure => simp [intOf]; omega
    · go_wp2
      go_ret
      refine ⟨ret_int ?_, rfl⟩
      have hn := HN.out
      rw [List.take_of_length_le (by simp; omega)] at hn
      rw [colon_none _ hn]
end Go.Proofs.Qxb6612872a
