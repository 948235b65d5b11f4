/-
  DERIVED. The two laws' walks. By an AI agent.
-/
import Derived.Test.Qxb6612974aDoorCanon
namespace Go.Proofs.Qxb6612974aDoor
open Go.RowKit Go.Lib

set_option maxHeartbeats 400000 in
theorem bytes5_any (p : ByteArray) (k i : Int) (w : World) (h : p.size ≤ maxLen) :
    Calls Tryd.prog 5 #[.string p, .int .i64 k, .int .i64 i] w fun e w' => ∃ b, e = .returned (.bool b) ∧ w' = w := by
  unfold maxLen at h
  go_enter Tryd.func5, Tryd.ntmps5
  go_wp2
  all_goals (go_ret; exact ⟨_, rfl, rfl⟩)

set_option maxHeartbeats 400000 in
theorem bytes8_any (p q : ByteArray) (i j : Int) (w : World) (h : p.size ≤ maxLen) (h2 : q.size ≤ maxLen) :
    Calls Tryd.prog 8 #[.string p, .int .i64 i, .string q, .int .i64 j] w fun e w' => ∃ b, e = .returned (.bool b) ∧ w' = w := by
  unfold maxLen at h h2
  go_enter Tryd.func8, Tryd.ntmps8
  go_wp2
  all_goals (go_ret; exact ⟨_, rfl, rfl⟩)

set_option maxRecDepth 100000 in
set_option maxHeartbeats 1600000 in
theorem cut_walk (p : ByteArray) (k i : Int) (h0 : -9223372036854775808 ≤ i) (h1 : i ≤ 9223372036854775807) (hp : p.size ≤ maxLen) (w : World) (ht : Tab w) :
    Calls Tryd.prog 3 #[.string p, .int .i64 k, .int .i64 i] w fun e w' => e = .returned (.bool true) ∧ Below w.heap.size w w' := by
  have H := hide hp
  have HT := hide ht
  clear ht
  unfold maxLen at hp
  go_enter Tryd.func3, Tryd.ntmps3
  go_wp2_with fail
  refine (bytes5_any p k i w H.out).mono ?_
  rintro e w1 ⟨b, rfl, rfl⟩
  cases b
  · go_wp2
    go_ret
    exact ⟨rfl, Below.refl _ _⟩
  by_cases c1 : 1048576 < p.size
  · go_wp2
    go_ret
    exact ⟨rfl, Below.refl _ _⟩
  by_cases c2 : k < 0
  · go_wp2
    go_ret
    exact ⟨rfl, Below.refl _ _⟩
  by_cases c3 : (p.size : Int) < k
  · go_wp2
    go_ret
    exact ⟨rfl, Below.refl _ _⟩
  obtain ⟨n, rfl⟩ := Int.eq_ofNat_of_zero_le (show 0 ≤ k from by omega)
  have hn : n ≤ p.size := by omega
  have hl := itoa_length_le i h0 h1
  have hs0 : (p.extract n p.size).size ≤ 1048576 := by rw [ByteArray.size_extract]; omega
  go_wp2_with fail
  refine (index6 p i h0 h1 w1 (by omega) HT.out).mono ?_
  rintro e w2 ⟨rfl, b2⟩
  have T2 := hide (HT.out.below b2)
  go_wp2_with fail
  refine (index6 (p.extract n p.size) i h0 h1 w2 hs0 T2.out).mono ?_
  rintro e w3 ⟨rfl, b3⟩
  have T3 := hide (T2.out.below b3)
  go_wp2_with fail
  refine (index6 ⟨#[]⟩ i h0 h1 w3 (by decide) T3.out).mono ?_
  rintro e w4 ⟨rfl, b4⟩
  have bel : Below w1.heap.size w1 w4 := (b2.trans (b3.mono b2.size)).trans (b4.mono (Nat.le_trans b2.size b3.size))
  have R := hide (back_any ⟨#[]⟩ i h0 h1 (by decide) w4)
  have e1 := idx_cut p i n
  have e2 := idx_bare p i
  have z1 := idx_size (p.extract n p.size) i
  have z2 := idx_size ⟨#[]⟩ i
  have z3 : (p.extract 0 n).size ≤ 1048576 := by rw [ByteArray.size_extract]; omega
  have z4 : (⟨#[]⟩ : ByteArray).size = 0 := rfl
  clear b2 b3 b4 T2 T3 HT
  generalize idx p i = wh at e1 e2 ⊢
  generalize idx (p.extract n p.size) i = tl at e1 z1 ⊢
  generalize idx ⟨#[]⟩ i = br at e2 z2 R ⊢
  have y1 : tl.size ≤ 1048600 := by omega
  have y2 : br.size ≤ 1048600 := by omega
  clear z1 z2 z4 hl hs0
  go_wp2_with fail
  refine R.out.mono ?_
  rintro e w5 ⟨rfl, rfl⟩
  clear R
  go_wp2
  go_ret
  exact ⟨rfl, bel⟩

set_option maxRecDepth 100000 in
set_option maxHeartbeats 1600000 in
theorem paths_walk (p q : ByteArray) (i j : Int) (h0 : -9223372036854775808 ≤ i) (h1 : i ≤ 9223372036854775807) (h2 : -9223372036854775808 ≤ j) (h3 : j ≤ 9223372036854775807) (hp : p.size ≤ maxLen) (hq : q.size ≤ maxLen) (w : World) (ht : Tab w) :
    Calls Tryd.prog 4 #[.string p, .int .i64 i, .string q, .int .i64 j] w fun e w' => e = .returned (.bool true) ∧ Below w.heap.size w w' := by
  have H := hide hp
  have H2 := hide hq
  have HT := hide ht
  clear ht
  unfold maxLen at hp hq
  go_enter Tryd.func4, Tryd.ntmps4
  go_wp2_with fail
  refine (bytes8_any p q i j w H.out H2.out).mono ?_
  rintro e w1 ⟨b, rfl, rfl⟩
  cases b
  · go_wp2
    go_ret
    exact ⟨rfl, Below.refl _ _⟩
  by_cases c1 : 1048576 < p.size
  · go_wp2
    go_ret
    exact ⟨rfl, Below.refl _ _⟩
  by_cases c2 : (1048576 : Int) - (p.size : Int) < (q.size : Int)
  · go_wp2
    go_ret
    exact ⟨rfl, Below.refl _ _⟩
  go_wp2_with fail
  refine (index6 p i h0 h1 w1 (by omega) HT.out).mono ?_
  rintro e w2 ⟨rfl, b2⟩
  have T2 := hide (HT.out.below b2)
  go_wp2_with fail
  refine (index6 q j h2 h3 w2 (by omega) T2.out).mono ?_
  rintro e w4 ⟨rfl, b4⟩
  have bel : Below w1.heap.size w1 w4 := b2.trans (b4.mono b2.size)
  have R1 := hide (back_any p i h0 h1 (by omega) w4)
  have R2 := hide (back_any q j h2 h3 (by omega) w4)
  have htt : ((idx p i).toList == (idx q j).toList) = (p.toList == q.toList && i == j) := by
    rw [eq_str, eq_str, Bool.eq_iff_iff]
    simp only [Bool.and_eq_true, decide_eq_true_eq, beq_iff_eq]
    exact ⟨idx_inj, fun h => by rw [h.1, h.2]⟩
  clear b2 b4 T2 HT
  generalize idx p i = a at R1 htt ⊢
  generalize idx q j = b at R2 htt ⊢
  have fin : ∀ bf bm : Bool, (p.toList == q.toList) = bf → (i == j) = bm → (bf = true ∧ bm = true) ∨ (bf = true ∧ bm = false) ∨ bf = false := by
    intro bf bm _ _
    cases bf <;> cases bm <;> simp
  rcases fin _ _ rfl rfl with ⟨hf, hm⟩ | ⟨hf, hm⟩ | hf
  · rw [hf, hm, Bool.true_and] at htt
    clear fin
    go_wp2_with fail
    refine R1.out.mono ?_
    rintro e w5 ⟨rfl, rfl⟩
    go_wp2_with fail
    refine R2.out.mono ?_
    rintro e w6 ⟨rfl, rfl⟩
    clear R1 R2
    go_wp2
    go_ret
    exact ⟨rfl, bel⟩
  · rw [hf, hm, Bool.true_and] at htt
    clear fin
    go_wp2_with fail
    refine R1.out.mono ?_
    rintro e w5 ⟨rfl, rfl⟩
    go_wp2_with fail
    refine R2.out.mono ?_
    rintro e w6 ⟨rfl, rfl⟩
    clear R1 R2
    go_wp2
    go_ret
    exact ⟨rfl, bel⟩
  · rw [hf, Bool.false_and] at htt
    clear fin
    go_wp2_with fail
    refine R1.out.mono ?_
    rintro e w5 ⟨rfl, rfl⟩
    go_wp2_with fail
    refine R2.out.mono ?_
    rintro e w6 ⟨rfl, rfl⟩
    clear R1 R2
    go_wp2
    go_ret
    exact ⟨rfl, bel⟩
end Go.Proofs.Qxb6612974aDoor
