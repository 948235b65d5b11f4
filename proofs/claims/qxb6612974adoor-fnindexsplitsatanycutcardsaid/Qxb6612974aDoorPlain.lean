/-
  DERIVED. The plain law: decimal numerals and item paths; no Go in sight. By an AI agent.
-/
import Derived.Lib.ItoaLen
import Derived.Lib.Strings
namespace Go.Proofs.Qxb6612974aDoor
open Go.Lib

/-- the number that a list of digits writes -/
def val (l : List UInt8) : Nat := l.foldl (fun a c => a * 10 + (c.toNat - 48)) 0

theorem val_snoc (l : List UInt8) (c : UInt8) : val (l ++ [c]) = val l * 10 + (c.toNat - 48) := by simp [val]

theorem dig_nat {d : Nat} (h : d < 10) : (UInt8.ofNat (48 + d)).toNat = 48 + d := by
  rw [UInt8.toNat_ofNat']
  omega

theorem val_dec (u : Nat) : val (decDigits u) = u := by
  induction u using Nat.strongRecOn with
  | _ u ih =>
    by_cases h : u < 10
    · rw [decDigits_one h]
      simp only [val, List.foldl_cons, List.foldl_nil]
      rw [dig_nat h]
      omega
    · rw [decDigits, dif_neg h, val_snoc, ih (u / 10) (by omega), dig_nat (Nat.mod_lt _ (by omega))]
      omega

theorem dec_mem (u : Nat) : ∀ c ∈ decDigits u, 48 ≤ c.toNat ∧ c.toNat ≤ 57 := by
  induction u using Nat.strongRecOn with
  | _ u ih =>
    intro c hc
    by_cases h : u < 10
    · rw [decDigits_one h] at hc
      obtain rfl := List.mem_singleton.1 hc
      rw [dig_nat h]
      omega
    · rw [decDigits, dif_neg h] at hc
      rcases List.mem_append.1 hc with h1 | h1
      · exact ih (u / 10) (by omega) c h1
      · obtain rfl := List.mem_singleton.1 h1
        rw [dig_nat (Nat.mod_lt _ (by omega))]
        omega

theorem dec_inj {a b : Nat} (h : decDigits a = decDigits b) : a = b := by rw [← val_dec a, h, val_dec]

theorem itoa_inj {a b : Int} (h : itoa a = itoa b) : a = b := by
  unfold itoa at h
  by_cases ha : a < 0 <;> by_cases hb : b < 0
  · rw [if_pos ha, if_pos hb] at h
    have := dec_inj (List.cons.inj h).2
    omega
  · rw [if_pos ha, if_neg hb] at h
    have := dec_mem b.toNat 45 (by rw [← h]; simp)
    simp at this
  · rw [if_neg ha, if_pos hb] at h
    have := dec_mem a.toNat 45 (by rw [h]; simp)
    simp at this
  · rw [if_neg ha, if_neg hb] at h
    have := dec_inj h
    omega

theorem itoa_mem (a : Int) : (91 : UInt8) ∉ itoa a := by
  intro h
  unfold itoa at h
  by_cases ha : a < 0
  · rw [if_pos ha] at h
    rcases List.mem_cons.1 h with h1 | h1
    · exact absurd h1 (by decide)
    · have := dec_mem _ _ h1
      simp at this
  · rw [if_neg ha] at h
    have := dec_mem _ _ h
    simp at this

/-- two lists cut at their last '[' -/
theorem cut_inj {p q a b : List UInt8} (ha : (91 : UInt8) ∉ a) (hb : (91 : UInt8) ∉ b) (h : p ++ 91 :: a = q ++ 91 :: b) : p = q ∧ a = b := by
  rcases List.append_eq_append_iff.1 h with ⟨l, h1, h2⟩ | ⟨l, h1, h2⟩
  · cases l with
    | nil => simp at h1 h2; exact ⟨h1.symm, h2⟩
    | cons x l =>
      simp only [List.cons_append, List.cons.injEq] at h2
      exact absurd (by rw [h2.2]; simp) ha
  · cases l with
    | nil => simp at h1 h2; exact ⟨h1, h2.symm⟩
    | cons x l =>
      simp only [List.cons_append, List.cons.injEq] at h2
      exact absurd (by rw [h2.2]; simp) hb

theorem data_inj {a b : ByteArray} (h : a.data.toList = b.data.toList) : a = b := by
  obtain ⟨a⟩ := a
  obtain ⟨b⟩ := b
  have h' : a = b := Array.toList_inj.1 h
  rw [h']

/-- Go's == on two strings, as the walk writes it -/
theorem eq_str (a b : ByteArray) : (a.toList == b.toList) = decide (a = b) := by
  rw [toList_data, toList_data, Bool.eq_iff_iff]
  simp only [beq_iff_eq, decide_eq_true_eq]
  exact ⟨data_inj, fun h => by rw [h]⟩

/-- the item path: the path, '[', the numeral, ']' -/
def idx (p : ByteArray) (i : Int) : ByteArray := p ++ ⟨#[91]⟩ ++ ⟨(itoa i).toArray⟩ ++ ⟨#[93]⟩

theorem idx_data (p : ByteArray) (i : Int) : (idx p i).data.toList = p.data.toList ++ 91 :: (itoa i ++ [93]) := by
  simp [idx]

theorem idx_size (p : ByteArray) (i : Int) : (idx p i).size = p.size + (itoa i).length + 2 := by
  have h := congrArg List.length (idx_data p i)
  simp at h
  omega

theorem idx_inj {p q : ByteArray} {i j : Int} (h : idx p i = idx q j) : p = q ∧ i = j := by
  have hd : p.data.toList ++ 91 :: (itoa i ++ [93]) = q.data.toList ++ 91 :: (itoa j ++ [93]) := by rw [← idx_data, ← idx_data, h]
  have m : ∀ a : Int, (91 : UInt8) ∉ itoa a ++ [93] := fun a hm => by
    rcases List.mem_append.1 hm with h1 | h1
    · exact itoa_mem a h1
    · simp at h1
  obtain ⟨h1, h2⟩ := cut_inj (m i) (m j) hd
  exact ⟨data_inj h1, itoa_inj (List.append_cancel_right h2)⟩

theorem idx_head (p : ByteArray) (i : Int) : (idx p i).extract 0 p.size = p := by
  apply data_inj
  rw [extract_data, idx_data]
  simp

theorem idx_mid (p : ByteArray) (i : Int) : (idx p i).extract (p.size + 1) (p.size + (itoa i).length + 1) = ⟨(itoa i).toArray⟩ := by
  apply data_inj
  rw [extract_data, idx_data, show p.size + (itoa i).length + 1 - (p.size + 1) = (itoa i).length from by omega]
  rw [show p.size + 1 = p.data.toList.length + 1 from by simp, List.drop_append, List.drop_of_length_le (by simp)]
  simp

theorem idx_open (p : ByteArray) (i : Int) (h : p.size < (idx p i).size) : (idx p i)[p.size] = 91 := by
  have h1 : (idx p i).data.toList[p.size]? = some 91 := by
    rw [idx_data, List.getElem?_append_right (by simp)]
    simp
  have h2 : p.size < (idx p i).data.toList.length := by simpa using h
  rw [List.getElem?_eq_getElem h2, Option.some.injEq] at h1
  exact h1

theorem idx_shut (p : ByteArray) (i : Int) (k : Nat) (hk : k = p.size + (itoa i).length + 1) (h : k < (idx p i).size) : (idx p i)[k] = 93 := by
  subst hk
  have h1 : (idx p i).data.toList[p.size + (itoa i).length + 1]? = some 93 := by
    rw [idx_data, List.getElem?_append_right (by simp; omega), show p.size + (itoa i).length + 1 - p.data.toList.length = (itoa i).length + 1 from by simp; omega]
    simp
  have h2 : p.size + (itoa i).length + 1 < (idx p i).data.toList.length := by simpa using h
  rw [List.getElem?_eq_getElem h2, Option.some.injEq] at h1
  exact h1

/-- the whole path is its head and the item path of its tail -/
theorem idx_cut (p : ByteArray) (i : Int) (k : Nat) : p.extract 0 k ++ idx (p.extract k p.size) i = idx p i := by
  apply data_inj
  have e : ∀ a b : ByteArray, (a ++ b).data.toList = a.data.toList ++ b.data.toList := fun a b => by simp
  rw [e, idx_data, idx_data, extract_data, extract_data, ← List.append_assoc]
  congr 1
  rw [List.drop_zero, Nat.sub_zero, List.take_of_length_le (by simp : (List.drop k p.data.toList).length ≤ p.size - k), List.take_append_drop]

theorem idx_bare (p : ByteArray) (i : Int) : p ++ idx ⟨#[]⟩ i = idx p i := by
  apply data_inj
  have e : ∀ a b : ByteArray, (a ++ b).data.toList = a.data.toList ++ b.data.toList := fun a b => by simp
  rw [e, idx_data, idx_data]
  simp

theorem itoa_pos (i : Int) : 1 ≤ (itoa i).length := by
  unfold itoa
  split
  · simp
  · rw [decDigits_length]; exact nDigits_pos _
end Go.Proofs.Qxb6612974aDoor
