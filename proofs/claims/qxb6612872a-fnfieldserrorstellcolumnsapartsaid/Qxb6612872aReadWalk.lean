/-
  DERIVED. FnFieldErrorReadBack: the walk. By an AI agent.
-/
import Derived.Test.Qxb6612872aText
import Derived.WalkSmall
import Derived.Lib.Strings
namespace Go.Proofs.Qxb6612872a
open Go.RowKit

theorem hide {p : Prop} (h : p) : Hid p := h

set_option maxHeartbeats 800000 in
theorem bytes10_any (f1 m1 f2 m2 : ByteArray) (w : World) (h1 : f1.size ≤ maxLen) (h2 : m1.size ≤ maxLen) (h3 : f2.size ≤ maxLen) (h4 : m2.size ≤ maxLen) :
    Calls Try.prog 10 #[.string f1, .string m1, .string f2, .string m2] w fun e w' => ∃ b, e = .returned (.bool b) ∧ w' = w := by
  unfold maxLen at h1 h2 h3 h4
  go_enter Try.func10, Try.ntmps10
  go_wp2
  all_goals (go_ret; exact ⟨_, rfl, rfl⟩)

theorem text_data (f m : ByteArray) : (f ++ ⟨#[58, 32]⟩ ++ m).data.toList = f.data.toList ++ 58 :: 32 :: m.data.toList := by simp

theorem text_colon (f m : ByteArray) (h : 58 ∉ f.data.toList) : colon (f ++ ⟨#[58, 32]⟩ ++ m).data.toList = f.size := by
  rw [text_data, colon_at _ _ h]
  simp

theorem data_inj {a b : ByteArray} (h : a.data.toList = b.data.toList) : a = b := by
  obtain ⟨a⟩ := a
  obtain ⟨b⟩ := b
  have h' : a = b := Array.toList_inj.1 h
  rw [h']

/-- Go's == on two strings, as the walk writes it -/
theorem eq_str (a b : ByteArray) : (a.toList == b.toList) = decide (a = b) := by
  rw [Lib.toList_data, Lib.toList_data, Bool.eq_iff_iff]
  simp only [beq_iff_eq, decide_eq_true_eq]
  exact ⟨data_inj, fun h => by rw [h]⟩

theorem text_inj {f1 m1 f2 m2 : ByteArray} (h1 : 58 ∉ f1.data.toList) (h2 : 58 ∉ f2.data.toList) (h : f1 ++ ⟨#[58, 32]⟩ ++ m1 = f2 ++ ⟨#[58, 32]⟩ ++ m2) : f1 = f2 ∧ m1 = m2 := by
  have c1 := text_colon f1 m1 h1
  have c2 := text_colon f2 m2 h2
  rw [h] at c1
  have hs : f1.size = f2.size := by omega
  have hd : f1.data.toList ++ 58 :: 32 :: m1.data.toList = f2.data.toList ++ 58 :: 32 :: m2.data.toList := by
    rw [← text_data, ← text_data, h]
  obtain ⟨e1, e2⟩ := List.append_inj hd (by simpa using hs)
  simp only [List.cons.injEq, true_and] at e2
  exact ⟨data_inj e1, data_inj e2⟩

/-- the text up to its first ':' is the field -/
theorem text_head (f m : ByteArray) : (f ++ ⟨#[58, 32]⟩ ++ m).extract 0 f.size = f := by
  apply data_inj
  rw [Lib.extract_data, text_data]
  simp

set_option maxRecDepth 100000 in
set_option maxHeartbeats 1600000 in
theorem read_walk (f1 m1 f2 m2 : ByteArray) (w : World) (h1 : f1.size ≤ maxLen) (h2 : m1.size ≤ maxLen) (h3 : f2.size ≤ maxLen) (h4 : m2.size ≤ maxLen) :
    Calls Try.prog 5 #[.string f1, .string m1, .string f2, .string m2] w fun e w' => e = .returned (.bool true) ∧ Below w.heap.size w w' := by
  have H1 := hide h1
  have H2 := hide h2
  have H3 := hide h3
  have H4 := hide h4
  unfold maxLen at h1 h2 h3 h4
  go_enter Try.func5, Try.ntmps5
  go_wp2_with fail
  refine (bytes10_any f1 m1 f2 m2 w H1.out H2.out H3.out H4.out).mono ?_
  rintro e w1 ⟨b, rfl, rfl⟩
  cases b
  · go_wp2
    go_ret
    exact ⟨rfl, Below.refl _ _⟩
  by_cases c1 : 262144 < f1.size
  · go_wp2
    go_ret
    exact ⟨rfl, Below.refl _ _⟩
  by_cases c2 : 262144 < m1.size
  · go_wp2
    go_ret
    exact ⟨rfl, Below.refl _ _⟩
  by_cases c3 : 262144 < f2.size
  · go_wp2
    go_ret
    exact ⟨rfl, Below.refl _ _⟩
  by_cases c4 : 262144 < m2.size
  · go_wp2
    go_ret
    exact ⟨rfl, Below.refl _ _⟩
  go_wp2_with fail
  refine (index_any f1 w1 H1.out).mono ?_
  rintro e w2 ⟨rfl, rfl⟩
  by_cases k1 : (58 : UInt8) ∈ f1.data.toList
  · have hk : 0 ≤ colon f1.data.toList := by simp [colon, k1]
    generalize colon f1.data.toList = z at hk ⊢
    clear k1
    go_wp2
    go_ret
    exact ⟨rfl, Below.refl _ _⟩
  rw [colon_none _ k1]
  go_wp2_with fail
  refine (index_any f2 w2 H3.out).mono ?_
  rintro e w3 ⟨rfl, rfl⟩
  by_cases k2 : (58 : UInt8) ∈ f2.data.toList
  · have hk : 0 ≤ colon f2.data.toList := by simp [colon, k2]
    generalize colon f2.data.toList = z at hk ⊢
    clear k2
    go_wp2
    go_ret
    exact ⟨rfl, Below.refl _ _⟩
  rw [colon_none _ k2]
  have K1 := hide k1
  have K2 := hide k2
  clear k1 k2
  go_wp2_with fail
  refine (text_any f1 m1 w3 (by omega) (by omega)).mono ?_
  rintro e w4 ⟨rfl, b4⟩
  go_wp2_with fail
  refine (text_any f2 m2 w4 (by omega) (by omega)).mono ?_
  rintro e w5 ⟨rfl, b5⟩
  generalize ht1 : f1 ++ ⟨#[58, 32]⟩ ++ m1 = t1
  generalize ht2 : f2 ++ ⟨#[58, 32]⟩ ++ m2 = t2
  have T1 := hide ht1
  have T2 := hide ht2
  clear ht1 ht2
  have htt : (t1.toList == t2.toList) = (f1.toList == f2.toList && m1.toList == m2.toList) := by
    rw [eq_str, eq_str, eq_str, Bool.eq_iff_iff]
    simp only [Bool.and_eq_true, decide_eq_true_eq]
    rw [← T1.out, ← T2.out]
    exact ⟨text_inj K1.out K2.out, fun h => by rw [h.1, h.2]⟩
  have ht8 : colon t1.data.toList = f1.size := by rw [← T1.out]; exact text_colon f1 m1 K1.out
  have hth : t1.extract 0 f1.size = f1 := by rw [← T1.out]; exact text_head f1 m1
  have hts : t1.size = f1.size + 2 + m1.size := by rw [← T1.out]; simp [ByteArray.size_append]; rfl
  have htm : t1.size ≤ maxLen := by unfold maxLen; omega
  have hto : f1.size ≤ t1.size := by omega
  have H8 := hide ht8
  have HH := hide hth
  have HM := hide htm
  clear ht8 hth htm hts T1 T2
  have bel : Below w3.heap.size w3 w5 := b4.trans (b5.mono b4.size)
  clear b4 b5
  have fin : ∀ bf bm : Bool, (f1.toList == f2.toList) = bf → (m1.toList == m2.toList) = bm → (bf = true ∧ bm = true) ∨ (bf = true ∧ bm = false) ∨ bf = false := by
    intro bf bm _ _
    cases bf <;> cases bm <;> simp
  rcases fin _ _ rfl rfl with ⟨hf, hm⟩ | ⟨hf, hm⟩ | hf
  · rw [hf, hm, Bool.true_and] at htt
    clear fin
    go_wp2_with fail
    refine (index_any t1 w5 HM.out).mono ?_
    rintro e w6 ⟨rfl, rfl⟩
    rw [H8.out]
    have hth := HH.out
    clear hf hm htt
    go_wp2
    go_ret
    exact ⟨rfl, bel⟩
  · rw [hf, hm, Bool.true_and] at htt
    clear fin
    go_wp2_with fail
    refine (index_any t1 w5 HM.out).mono ?_
    rintro e w6 ⟨rfl, rfl⟩
    rw [H8.out]
    have hth := HH.out
    clear hf hm htt
    go_wp2
    go_ret
    exact ⟨rfl, bel⟩
  · rw [hf, Bool.false_and] at htt
    clear fin
    go_wp2_with fail
    refine (index_any t1 w5 HM.out).mono ?_
    rintro e w6 ⟨rfl, rfl⟩
    rw [H8.out]
    have hth := HH.out
    clear hf htt
    go_wp2
    go_ret
    exact ⟨rfl, bel⟩
end Go.Proofs.Qxb6612872a
