/-
  DERIVED. zzCanonicalDecimalOf at a numeral of its own number: it answers true. By an AI agent.
-/
import Derived.Test.Qxb6612974aDoorIndex
import Derived.Test.Qxb6612974aDoorDigits
import Derived.Laws.Bits64
namespace Go.Proofs.Qxb6612974aDoor
open Go.RowKit Go.Lib

set_option maxRecDepth 100000 in
set_option maxHeartbeats 800000 in
theorem canon_pos (s : ByteArray) (u : Nat) (hu : u ≤ 9223372036854775807) (hd : Dig s u) (w : World) :
    Calls Tryd.prog 10 #[.string s, .int .i64 (u : Int)] w fun e w' => e = .returned (.bool true) ∧ w' = w := by
  have n1 := hd.n1
  have n20 := hd.n20
  obtain ⟨i, hi⟩ : ∃ i : Int, i = (u : Int) := ⟨_, rfl⟩
  rw [← hi]
  have b0 : 0 ≤ i := by omega
  have b1 : i ≤ 9223372036854775807 := by omega
  have HI := hide hi
  clear hi
  have d0 : ((s[0].toNat : Int) == 45) = false := by
    have := hd.dig 0 (by omega)
    rw [beq_eq_false_iff_ne]
    omega
  have hz : ((s.size : Int) == 0) = false := beq_eq_false_iff_ne.2 (by omega)
  have hz2 : decide ((20 : Int) < (s.size : Int)) = false := decide_eq_false (by omega)
  by_cases h1 : 1 < s.size
  · have d1 : ((s[0].toNat : Int) == 48) = false := by
      have := dig_lead hd h1
      rw [beq_eq_false_iff_ne]
      omega
    go_enter Tryd.func10, Tryd.ntmps10
    go_wp2
    go_loop [6, 7] (fun vv kv => ∃ (k : Nat) (a : Int), k ≤ s.size ∧ kv = .int .i64 k ∧ vv = .int .u64 a ∧ a = (upto s u k : Int)) (fun _ kv => s.size - (RowKit.intOf kv).toNat)
    case atStart => exact ⟨0, 0, Nat.zero_le _, rfl, rfl, by rw [upto_zero hd]; rfl⟩
    case round =>
      obtain ⟨k, a, hk, rfl, rfl, ha⟩ := hrel
      by_cases hlt : k < s.size
      · have e1 := upto_succ s u k hlt
        have e2 := upto_le s u k hlt
        have e3 := hd.dig k hlt
        have a0 : 0 ≤ a := by omega
        have a1 : a ≤ 922337203685477580 := by omega
        have c0 : (48 : Int) ≤ (s[k].toNat : Int) := by omega
        have c1 : (s[k].toNat : Int) ≤ 57 := by omega
        have HA : Hid ((upto s u (k + 1) : Int) = a * 10 + ((s[k].toNat : Int) - 48)) := by show _ = _; omega
        clear e1 e2 e3 ha d0
        go_wp2
        go_round
        case rel => exact ⟨k + 1, _, by omega, by go_num, rfl, HA.out.symm⟩
        case measure => simp [RowKit.intOf]; omega
      · have hkn : k = s.size := by omega
        have hai : a = i := by rw [ha, hkn, upto_all, HI.out]
        subst hai
        have hneg : decide (a < 0) = false := decide_eq_false (by omega)
        clear ha d0
        go_wp2
        go_ret
        exact ⟨rfl, rfl⟩
  · go_enter Tryd.func10, Tryd.ntmps10
    go_wp2
    go_loop [6, 7] (fun vv kv => ∃ (k : Nat) (a : Int), k ≤ s.size ∧ kv = .int .i64 k ∧ vv = .int .u64 a ∧ a = (upto s u k : Int)) (fun _ kv => s.size - (RowKit.intOf kv).toNat)
    case atStart => exact ⟨0, 0, Nat.zero_le _, rfl, rfl, by rw [upto_zero hd]; rfl⟩
    case round =>
      obtain ⟨k, a, hk, rfl, rfl, ha⟩ := hrel
      by_cases hlt : k < s.size
      · have e1 := upto_succ s u k hlt
        have e2 := upto_le s u k hlt
        have e3 := hd.dig k hlt
        have a0 : 0 ≤ a := by omega
        have a1 : a ≤ 922337203685477580 := by omega
        have c0 : (48 : Int) ≤ (s[k].toNat : Int) := by omega
        have c1 : (s[k].toNat : Int) ≤ 57 := by omega
        have HA : Hid ((upto s u (k + 1) : Int) = a * 10 + ((s[k].toNat : Int) - 48)) := by show _ = _; omega
        clear e1 e2 e3 ha d0
        go_wp2
        go_round
        case rel => exact ⟨k + 1, _, by omega, by go_num, rfl, HA.out.symm⟩
        case measure => simp [RowKit.intOf]; omega
      · have hkn : k = s.size := by omega
        have hai : a = i := by rw [ha, hkn, upto_all, HI.out]
        subst hai
        have hneg : decide (a < 0) = false := decide_eq_false (by omega)
        clear ha d0
        go_wp2
        go_ret
        exact ⟨rfl, rfl⟩

theorem wrap_neg_neg (a : Int) (h0 : 1 ≤ a) (h1 : a ≤ 9223372036854775808) : IntKind.u64.wrap (-IntKind.u64.wrap (-a)) = a := by
  rw [IntKind.wrap_u64, IntKind.wrap_u64]
  omega

set_option maxRecDepth 100000 in
set_option maxHeartbeats 800000 in
theorem canon_neg (t s : ByteArray) (u : Nat) (hu0 : 1 ≤ u) (hu : u ≤ 9223372036854775808) (hd : Dig s u) (ht : t.size = s.size + 1) (h45 : ∀ h : 0 < t.size, t[0].toNat = 45) (hts : t.extract 1 t.size = s) (w : World) :
    Calls Tryd.prog 10 #[.string t, .int .i64 (-(u : Int))] w fun e w' => e = .returned (.bool true) ∧ w' = w := by
  have n1 := hd.n1
  have n20 := hd.n20
  obtain ⟨i, hi⟩ : ∃ i : Int, i = (u : Int) := ⟨_, rfl⟩
  rw [← hi]
  have b0 : 1 ≤ i := by omega
  have b1 : i ≤ 9223372036854775808 := by omega
  have HI := hide hi
  clear hi
  have hz : ((s.size : Int) == 0) = false := beq_eq_false_iff_ne.2 (by omega)
  have hz2 : decide ((20 : Int) < (s.size : Int)) = false := decide_eq_false (by omega)
  have htp : 0 < t.size := by omega
  have d0 : ((t[0].toNat : Int) == 45) = true := by
    rw [beq_iff_eq, h45 htp]
    rfl
  have HT := hide ht
  clear ht h45
  by_cases h1 : 1 < s.size
  · have d1 : ((s[0].toNat : Int) == 48) = false := by
      have := dig_lead hd h1
      rw [beq_eq_false_iff_ne]
      omega
    go_enter Tryd.func10, Tryd.ntmps10
    go_wp2
    go_loop [6, 7] (fun vv kv => ∃ (k : Nat) (a : Int), k ≤ s.size ∧ kv = .int .i64 k ∧ vv = .int .u64 a ∧ a = (upto s u k : Int)) (fun _ kv => s.size - (RowKit.intOf kv).toNat)
    case atStart => exact ⟨0, 0, Nat.zero_le _, rfl, rfl, by rw [upto_zero hd]; rfl⟩
    case round =>
      obtain ⟨k, a, hk, rfl, rfl, ha⟩ := hrel
      by_cases hlt : k < s.size
      · have e1 := upto_succ s u k hlt
        have e2 := upto_le s u k hlt
        have e3 := hd.dig k hlt
        have a0 : 0 ≤ a := by omega
        have a1 : a ≤ 922337203685477580 := by omega
        have c0 : (48 : Int) ≤ (s[k].toNat : Int) := by omega
        have c1 : (s[k].toNat : Int) ≤ 57 := by omega
        have HA : Hid ((upto s u (k + 1) : Int) = a * 10 + ((s[k].toNat : Int) - 48)) := by show _ = _; omega
        clear e1 e2 e3 ha d0
        go_wp2
        go_round
        case rel => exact ⟨k + 1, _, by omega, by go_num, rfl, HA.out.symm⟩
        case measure => simp [RowKit.intOf]; omega
      · have hkn : k = s.size := by omega
        have hai : a = i := by rw [ha, hkn, upto_all, HI.out]
        subst hai
        have hv0 : (a == 0) = false := beq_eq_false_iff_ne.2 (by omega)
        have hneg : decide (-a < 0) = true := decide_eq_true (by omega)
        clear ha d0
        go_wp2
        go_ret
        refine ⟨?_, rfl⟩
        show Ending.returned (.bool (a == IntKind.u64.wrap (-IntKind.u64.wrap (-a)))) = _
        rw [wrap_neg_neg a b0 b1]
        simp
  · go_enter Tryd.func10, Tryd.ntmps10
    go_wp2
    go_loop [6, 7] (fun vv kv => ∃ (k : Nat) (a : Int), k ≤ s.size ∧ kv = .int .i64 k ∧ vv = .int .u64 a ∧ a = (upto s u k : Int)) (fun _ kv => s.size - (RowKit.intOf kv).toNat)
    case atStart => exact ⟨0, 0, Nat.zero_le _, rfl, rfl, by rw [upto_zero hd]; rfl⟩
    case round =>
      obtain ⟨k, a, hk, rfl, rfl, ha⟩ := hrel
      by_cases hlt : k < s.size
      · have e1 := upto_succ s u k hlt
        have e2 := upto_le s u k hlt
        have e3 := hd.dig k hlt
        have a0 : 0 ≤ a := by omega
        have a1 : a ≤ 922337203685477580 := by omega
        have c0 : (48 : Int) ≤ (s[k].toNat : Int) := by omega
        have c1 : (s[k].toNat : Int) ≤ 57 := by omega
        have HA : Hid ((upto s u (k + 1) : Int) = a * 10 + ((s[k].toNat : Int) - 48)) := by show _ = _; omega
        clear e1 e2 e3 ha d0
        go_wp2
        go_round
        case rel => exact ⟨k + 1, _, by omega, by go_num, rfl, HA.out.symm⟩
        case measure => simp [RowKit.intOf]; omega
      · have hkn : k = s.size := by omega
        have hai : a = i := by rw [ha, hkn, upto_all, HI.out]
        subst hai
        have hv0 : (a == 0) = false := beq_eq_false_iff_ne.2 (by omega)
        have hneg : decide (-a < 0) = true := decide_eq_true (by omega)
        clear ha d0
        go_wp2
        go_ret
        refine ⟨?_, rfl⟩
        show Ending.returned (.bool (a == IntKind.u64.wrap (-IntKind.u64.wrap (-a)))) = _
        rw [wrap_neg_neg a b0 b1]
        simp

/-- zzCanonicalDecimalOf at i's own numeral: true. -/
theorem canon_any (i : Int) (h0 : -9223372036854775808 ≤ i) (h1 : i ≤ 9223372036854775807) (w : World) :
    Calls Tryd.prog 10 #[.string ⟨(itoa i).toArray⟩, .int .i64 i] w fun e w' => e = .returned (.bool true) ∧ w' = w := by
  by_cases hn : i < 0
  · obtain ⟨u, rfl⟩ : ∃ u : Nat, i = -(u : Int) := ⟨i.natAbs, by omega⟩
    have e : itoa (-(u : Int)) = 45 :: decDigits u := by
      unfold itoa
      rw [if_pos hn, show (-(u : Int)).natAbs = u from by omega]
    have hsz : (⟨(itoa (-(u : Int))).toArray⟩ : ByteArray).size = (⟨(decDigits u).toArray⟩ : ByteArray).size + 1 := by
      rw [e]; simp [ByteArray.size]
    refine canon_neg _ ⟨(decDigits u).toArray⟩ u (by omega) (by omega) (dig_dec u (by omega)) hsz (fun h => ?_) ?_ w
    · have h2 : (⟨(itoa (-(u : Int))).toArray⟩ : ByteArray)[0] = (itoa (-(u : Int)))[0]'(by rw [e]; simp) := rfl
      rw [h2]
      simp [e]
    · apply data_inj
      rw [extract_data, hsz]
      show ((itoa (-(u : Int))).drop 1).take _ = decDigits u
      rw [e]
      simp [ByteArray.size]
  · obtain ⟨u, rfl⟩ : ∃ u : Nat, i = (u : Int) := ⟨i.toNat, by omega⟩
    have e : itoa (u : Int) = decDigits u := by
      unfold itoa
      rw [if_neg hn, Int.toNat_natCast]
    rw [e]
    exact canon_pos _ u (by omega) (dig_dec u (by omega)) w

set_option maxRecDepth 100000 in
set_option maxHeartbeats 800000 in
/-- zzReadsBack at an item path of its own: true. -/
theorem back_any (p : ByteArray) (i : Int) (h0 : -9223372036854775808 ≤ i) (h1 : i ≤ 9223372036854775807) (hp : p.size ≤ 1048576) (w : World) :
    Calls Tryd.prog 7 #[.string (idx p i), .string p, .int .i64 i] w fun e w' => e = .returned (.bool true) ∧ w' = w := by
  have z1 := idx_size p i
  have z2 := itoa_pos i
  have z3 := itoa_length_le i h0 h1
  have f1 := idx_head p i
  have f2 := idx_mid p i
  obtain ⟨m, hm⟩ : ∃ m, m = (itoa i).length := ⟨_, rfl⟩
  have f3 := idx_open p i
  have f4 := idx_shut p i
  rw [← hm] at z1 z2 z3 f2 f4
  have C := canon_any i h0 h1
  obtain ⟨d, hdd⟩ : ∃ d : ByteArray, d = ⟨(itoa i).toArray⟩ := ⟨_, rfl⟩
  rw [← hdd] at f2 C
  clear hdd hm
  generalize idx p i = s at z1 f1 f2 f3 f4 ⊢
  have C' := hide C
  clear C
  have l1 : p.size < s.size := by omega
  have q1 : ((s[p.size].toNat : Int) != 91) = false := by rw [f3 l1]; rfl
  have l2 : p.size + m + 1 < s.size := by omega
  have q2 : ((s[p.size + m + 1].toNat : Int) != 93) = false := by rw [f4 _ rfl l2]; rfl
  clear f3 f4
  go_enter Tryd.func7, Tryd.ntmps7
  go_wp2_with fail
  refine (C'.out w).mono ?_
  rintro e w1 ⟨rfl, rfl⟩
  clear q1 q2
  go_wp2
  go_ret
  exact ⟨rfl, rfl⟩
end Go.Proofs.Qxb6612974aDoor
