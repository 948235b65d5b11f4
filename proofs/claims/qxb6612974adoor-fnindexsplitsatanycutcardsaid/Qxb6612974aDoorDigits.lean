/-
  DERIVED. The plain facts on a numeral that the reader's loop wants. By an AI agent.
-/
import Derived.Test.Qxb6612974aDoorPlain
namespace Go.Proofs.Qxb6612974aDoor
open Go.Lib

/-- s is u's decimal numeral, place by place -/
structure Dig (s : ByteArray) (u : Nat) : Prop where
  n1 : 1 ≤ s.size
  n20 : s.size ≤ 20
  dig : ∀ k (h : k < s.size), s[k].toNat = 48 + u / 10 ^ (s.size - 1 - k) % 10
  top : u / 10 ^ s.size = 0
  lead : 1 < s.size → u / 10 ^ (s.size - 1) ≠ 0

theorem pow_le_nDigits (u : Nat) (h : 1 < nDigits u) : 10 ^ (nDigits u - 1) ≤ u := by
  induction u using Nat.strongRecOn with
  | _ u ih =>
    by_cases h10 : u < 10
    · rw [nDigits_small h10] at h; omega
    · rw [nDigits_big h10] at h ⊢
      rw [Nat.add_sub_cancel]
      by_cases h1 : 1 < nDigits (u / 10)
      · have := ih (u / 10) (by omega) h1
        have e : nDigits (u / 10) = nDigits (u / 10) - 1 + 1 := by omega
        rw [e, Nat.pow_succ]
        omega
      · have e : nDigits (u / 10) = 1 := by have := nDigits_pos (u / 10); omega
        rw [e]
        omega

theorem dig_dec (u : Nat) (h : u < 18446744073709551616) : Dig ⟨(decDigits u).toArray⟩ u := by
  have hn : (⟨(decDigits u).toArray⟩ : ByteArray).size = nDigits u := by
    rw [← decDigits_length]; simp [ByteArray.size]
  refine ⟨by rw [hn]; exact nDigits_pos u, by rw [hn]; exact nDigits_le20 u h, fun k hk => ?_, ?_, fun h1 => ?_⟩
  · have h1 : (decDigits u)[k]? = some (dg u (nDigits u - 1 - k)) := by
      rw [decDigits_eq]
      rw [hn] at hk
      simp [hk]
    have h2 : k < (decDigits u).length := by rw [decDigits_length, ← hn]; exact hk
    rw [List.getElem?_eq_getElem h2, Option.some.injEq] at h1
    have h3 : (⟨(decDigits u).toArray⟩ : ByteArray)[k] = (decDigits u)[k] := rfl
    rw [h3, h1, hn]
    unfold dg
    exact dig_nat (Nat.mod_lt _ (by omega))
  · rw [hn]; exact Nat.div_eq_of_lt (lt_pow_nDigits u)
  · rw [hn] at h1 ⊢
    have := pow_le_nDigits u h1
    have := Nat.div_pos this (Nat.pow_pos (by omega))
    omega

theorem dig_lead {s : ByteArray} {u : Nat} (h : Dig s u) (h1 : 1 < s.size) : s[0].toNat ≠ 48 := by
  have e := h.dig 0 (by omega)
  have t := h.top
  have l := h.lead h1
  have hp : s.size = s.size - 1 + 1 := by omega
  rw [hp, Nat.pow_succ, ← Nat.div_div_eq_div_mul] at t
  rw [Nat.sub_zero] at e
  omega

/-- what the reader holds after k digits -/
def upto (s : ByteArray) (u k : Nat) : Nat := u / 10 ^ (s.size - k)

theorem upto_succ (s : ByteArray) (u k : Nat) (h : k < s.size) : upto s u (k + 1) = upto s u k * 10 + u / 10 ^ (s.size - 1 - k) % 10 := by
  unfold upto
  have e : s.size - k = s.size - (k + 1) + 1 := by omega
  rw [e, Nat.pow_succ, ← Nat.div_div_eq_div_mul, show s.size - 1 - k = s.size - (k + 1) from by omega]
  omega

theorem upto_le (s : ByteArray) (u k : Nat) (h : k < s.size) : upto s u k ≤ u / 10 := by
  unfold upto
  have e : s.size - k = 1 + (s.size - k - 1) := by omega
  rw [e, Nat.pow_add, Nat.pow_one, ← Nat.div_div_eq_div_mul]
  exact Nat.div_le_self _ _

theorem upto_zero {s : ByteArray} {u : Nat} (h : Dig s u) : upto s u 0 = 0 := by unfold upto; rw [Nat.sub_zero]; exact h.top
theorem upto_all (s : ByteArray) (u : Nat) : upto s u s.size = u := by unfold upto; rw [Nat.sub_self]; simp
end Go.Proofs.Qxb6612974aDoor
