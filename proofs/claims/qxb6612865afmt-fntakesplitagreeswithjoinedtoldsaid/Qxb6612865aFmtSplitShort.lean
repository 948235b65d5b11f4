/-
  DERIVED. FnTakeSplitAgreesWithJoined: the walk where a+b overruns buf. By an AI agent.
-/
import Derived.Test.Qxb6612865aFmtSplitWalk
namespace Go.Proofs.Qxb6612865aFmt
open Go.RowKit Go.Extern.Stop Go.Stop Go.Extern

set_option maxRecDepth 100000 in
set_option maxHeartbeats 1600000 in
theorem split_mid (F : Interp) (ae : Addr) (se : ByteArray) (a0 : Option Addr) (n0 c0 : Nat) (a b : Nat) (xs : List Int) (w : World) (hF : F.answers w.tape)
    (hg : w.cell? ⟨0, 0, none⟩ = some (.iface 53 (.pointer (some ae)))) (hs : w.cell? ae = some (.string se))
    (hB : Bts w a0 xs) (hx : xs.length = n0) (hlc : n0 ≤ c0) (hnil : a0 = none → n0 = 0 ∧ c0 = 0)
    (h0 : n0 ≤ 1048576) (hmax : a + b ≤ 9223372036854775807) (hab : n0 < a + b) (ha : a ≤ n0) :
    Calls Tryf.prog 4 #[.slice a0 n0 c0, .int .i64 a, .int .i64 b] w fun e w' => e = .returned (.bool true) ∧ Below w.heap.size w w' := by
  have ht : (b : Int) ≤ 9223372036854775807 - (a : Int) := by omega
  have hov : (n0 : Int) < (a : Int) + (b : Int) := by omega
  have hle : (a : Int) ≤ (n0 : Int) := by omega
  have q22n : ∀ (w : World) (a : Option Addr) (n c n' c' : Nat), (binOp .neq 22 (.slice a n c) (.slice none n' c')).run Tryf.prog w = .ok (.bool (!a.isNone)) w := fun w a n c n' c' => run_neq_slice_nil_any w _ _ a n c n' c' Tryf.underlying22
  have q22e : ∀ (w : World) (a : Option Addr) (n c n' c' : Nat), (binOp .eql 22 (.slice a n c) (.slice none n' c')).run Tryf.prog w = .ok (.bool a.isNone) w := fun w a n c n' c' => Lib.run_eql_slice_nil w _ _ a n c n' c' Tryf.underlying22
  go_enter Tryf.func4, Tryf.ntmps4
  go_wp2_with (go_at_call 14; go_in)
  refine (clone_any w w (Below.refl _ _) a0 n0 c0 xs hB hx hnil h0).mono ?_
  rintro e w1 ⟨k1, a1, N1, rfl, hN, hc, ha⟩
  have D0 := Dec.mk' (Below.refl _ w) k1 hx hN hc ha
  clear hN hc ha k1
  go_wp2_with (go_at_call 8; refine (new_any a1 n0 n0 w1).mono ?_; rintro e w2 ⟨rfl, rfl⟩)
  generalize w1.heap.size = b1 at D0 ⊢
  generalize w1.alloc (.cells #[.slice a1 n0 n0, .nilIface] 40) = w2 at D0 ⊢
  refine (clone_any w w2 D0.bel a0 n0 c0 xs hB hx hnil h0).mono ?_
  rintro e w3 ⟨k3, a3, N2, rfl, hN, hc, ha⟩
  have T := Two.mk' D0 k3 hx hN hc ha
  clear hN hc ha k3 D0 hnil
  go_wp2_with (go_at_call 8; refine (new_any a3 n0 n0 w3).mono ?_; rintro e w4 ⟨rfl, rfl⟩)
  generalize w3.heap.size = b2 at T ⊢
  generalize w3.alloc (.cells #[.slice a3 n0 n0, .nilIface] 40) = w4 at T ⊢
  -- x := take(d1, a)
  refine (T.d1.take_ok a (by omega) (by omega)).mono ?_
  rintro e w5 ⟨ax, rfl, -, D5, K5, hax⟩
  replace T := T.step1 D5 K5
  clear D5 K5
  rw [Nat.zero_add] at T
  go_wp2_with fail
  -- y := take(d1, b)
  refine (T.d1.take_short F ae se b (by omega) hF hg hs).mono ?_
  rintro e w6 ⟨rfl, D6, K6⟩
  replace T := T.step1 D6 K6
  clear D6 K6
  go_wp2_with fail
  -- z := take(d2, total)
  have c7 := T.d2.take_short F ae se (a + b) (by omega) hF hg hs
  rw [Int.natCast_add] at c7
  refine c7.mono ?_
  clear c7
  rintro e w7 ⟨rfl, D7, K7⟩
  replace T := T.step2 D7 K7
  clear D7 K7
  obtain ⟨e1, hb1⟩ := T.d1.bad rfl
  obtain ⟨e2, hb2⟩ := T.d2.bad rfl
  go_wp2_with fail
  refine (err_set b2 50 _ w7 hb2).mono ?_
  rintro e w8 ⟨rfl, rfl⟩
  obtain ⟨ad2, hc2, Bd2⟩ := T.d2.rest
  rw [hx, Nat.sub_zero] at hc2
  rw [List.drop_zero] at Bd2
  go_wp2_with fail
  refine (buf_any b2 ad2 _ _ w8 hc2).mono ?_
  rintro e w9 ⟨rfl, rfl⟩
  go_wp2_with fail
  refine (eq_same ad2 a0 n0 n0 c0 xs w9 hx h0 Bd2 (hB.below T.d1.bel)).mono ?_
  rintro e w10 ⟨rfl, q10, rfl⟩
  replace T := T.drewN q10
  clear Bd2 hc2 hb2 hb1
  generalize w9.drewN q10 = w10 at T ⊢
  obtain ⟨e3, hb3⟩ := T.d1.bad rfl
  go_wp2_with fail
  refine (err_set b1 50 _ w10 hb3).mono ?_
  rintro e w11 ⟨rfl, rfl⟩
  clear hb3
  obtain ⟨ad1, hc1, Bd1⟩ := T.d1.rest
  rw [hx] at hc1
  obtain ⟨s1, r1, B1⟩ := sl_h w a0 n0 c0 xs hB hx hlc a (by omega)
  obtain ⟨s4, r4, B4⟩ := sl_l w a0 n0 c0 xs hB hx hlc a (by omega)
  have B1' := B1.below T.d1.bel
  have B4' := B4.below T.d1.bel
  have Bx : Bts w11 ax (xs.take a) := T.d1.bts ax 0 a (by omega) hax
  have lx : Hid ((xs.take a).length = a) := by show _ = _; simp; omega
  have lr : Hid ((xs.drop a).length = n0 - a) := by show _ = _; simp; omega
  clear B1 B4 hax
  go_wp2_with fail
  go_quiet (first
    | (go_at_call_of 13 b1; exact Calls.quiet_of_same (buf_any b1 ad1 _ _ _ hc1))
    | (go_at_call_of 11 ax; exact Calls.quiet_of (eq_same ax s1 _ _ _ _ _ lx.out (by omega) (Bx.drewN _) (B1'.drewN _)))
    | (go_at_call_of 11 ad1; exact Calls.quiet_of (eq_same ad1 s4 _ _ _ _ _ lr.out (by omega) (Bd1.drewN _) (B4'.drewN _))))
  have bel := (T.drewN nq).d1.bel
  clear T hc1 Bd1 B1' B4' r1 r4 hB Bx
  go_wp2
  go_ret
  exact ⟨rfl, bel⟩

set_option maxRecDepth 100000 in
set_option maxHeartbeats 1600000 in
theorem split_over (F : Interp) (ae : Addr) (se : ByteArray) (a0 : Option Addr) (n0 c0 : Nat) (a b : Nat) (xs : List Int) (w : World) (hF : F.answers w.tape)
    (hg : w.cell? ⟨0, 0, none⟩ = some (.iface 53 (.pointer (some ae)))) (hs : w.cell? ae = some (.string se))
    (hB : Bts w a0 xs) (hx : xs.length = n0) (_hlc : n0 ≤ c0) (hnil : a0 = none → n0 = 0 ∧ c0 = 0)
    (h0 : n0 ≤ 1048576) (hmax : a + b ≤ 9223372036854775807) (hab : n0 < a + b) (ha : n0 < a) :
    Calls Tryf.prog 4 #[.slice a0 n0 c0, .int .i64 a, .int .i64 b] w fun e w' => e = .returned (.bool true) ∧ Below w.heap.size w w' := by
  have ht : (b : Int) ≤ 9223372036854775807 - (a : Int) := by omega
  have hov : (n0 : Int) < (a : Int) + (b : Int) := by omega
  have hle : (n0 : Int) < (a : Int) := by omega
  have q22n : ∀ (w : World) (a : Option Addr) (n c n' c' : Nat), (binOp .neq 22 (.slice a n c) (.slice none n' c')).run Tryf.prog w = .ok (.bool (!a.isNone)) w := fun w a n c n' c' => run_neq_slice_nil_any w _ _ a n c n' c' Tryf.underlying22
  have q22e : ∀ (w : World) (a : Option Addr) (n c n' c' : Nat), (binOp .eql 22 (.slice a n c) (.slice none n' c')).run Tryf.prog w = .ok (.bool a.isNone) w := fun w a n c n' c' => Lib.run_eql_slice_nil w _ _ a n c n' c' Tryf.underlying22
  go_enter Tryf.func4, Tryf.ntmps4
  go_wp2_with (go_at_call 14; go_in)
  refine (clone_any w w (Below.refl _ _) a0 n0 c0 xs hB hx hnil h0).mono ?_
  rintro e w1 ⟨k1, a1, N1, rfl, hN, hc, ha⟩
  have D0 := Dec.mk' (Below.refl _ w) k1 hx hN hc ha
  clear hN hc ha k1
  go_wp2_with (go_at_call 8; refine (new_any a1 n0 n0 w1).mono ?_; rintro e w2 ⟨rfl, rfl⟩)
  generalize w1.heap.size = b1 at D0 ⊢
  generalize w1.alloc (.cells #[.slice a1 n0 n0, .nilIface] 40) = w2 at D0 ⊢
  refine (clone_any w w2 D0.bel a0 n0 c0 xs hB hx hnil h0).mono ?_
  rintro e w3 ⟨k3, a3, N2, rfl, hN, hc, ha⟩
  have T := Two.mk' D0 k3 hx hN hc ha
  clear hN hc ha k3 D0 hnil
  go_wp2_with (go_at_call 8; refine (new_any a3 n0 n0 w3).mono ?_; rintro e w4 ⟨rfl, rfl⟩)
  generalize w3.heap.size = b2 at T ⊢
  generalize w3.alloc (.cells #[.slice a3 n0 n0, .nilIface] 40) = w4 at T ⊢
  -- x := take(d1, a)
  refine (T.d1.take_short F ae se a (by omega) hF hg hs).mono ?_
  rintro e w5 ⟨rfl, D5, K5⟩
  replace T := T.step1 D5 K5
  clear D5 K5
  go_wp2_with fail
  -- y := take(d1, b)
  refine (T.d1.take_bad b).mono ?_
  rintro e w6 ⟨rfl, D6, K6⟩
  replace T := T.step1 D6 K6
  clear D6 K6
  go_wp2_with fail
  -- z := take(d2, total)
  have c7 := T.d2.take_short F ae se (a + b) (by omega) hF hg hs
  rw [Int.natCast_add] at c7
  refine c7.mono ?_
  clear c7
  rintro e w7 ⟨rfl, D7, K7⟩
  replace T := T.step2 D7 K7
  clear D7 K7
  obtain ⟨e1, hb1⟩ := T.d1.bad rfl
  obtain ⟨e2, hb2⟩ := T.d2.bad rfl
  go_wp2_with fail
  refine (err_set b2 50 _ w7 hb2).mono ?_
  rintro e w8 ⟨rfl, rfl⟩
  obtain ⟨ad2, hc2, Bd2⟩ := T.d2.rest
  rw [hx, Nat.sub_zero] at hc2
  rw [List.drop_zero] at Bd2
  go_wp2_with fail
  refine (buf_any b2 ad2 _ _ w8 hc2).mono ?_
  rintro e w9 ⟨rfl, rfl⟩
  go_wp2_with fail
  refine (eq_same ad2 a0 n0 n0 c0 xs w9 hx h0 Bd2 (hB.below T.d1.bel)).mono ?_
  rintro e w10 ⟨rfl, q10, rfl⟩
  replace T := T.drewN q10
  clear Bd2 hc2 hb2 hb1
  generalize w9.drewN q10 = w10 at T ⊢
  obtain ⟨e3, hb3⟩ := T.d1.bad rfl
  go_wp2_with fail
  refine (err_set b1 50 _ w10 hb3).mono ?_
  rintro e w11 ⟨rfl, rfl⟩
  clear hb3
  obtain ⟨ad1, hc1, Bd1⟩ := T.d1.rest
  rw [hx, Nat.sub_zero] at hc1
  rw [List.drop_zero] at Bd1
  go_wp2_with fail
  refine (buf_any b1 ad1 _ _ w11 hc1).mono ?_
  rintro e w12 ⟨rfl, rfl⟩
  go_wp2_with fail
  refine (eq_same ad1 a0 n0 n0 c0 xs w12 hx h0 Bd1 (hB.below T.d1.bel)).mono ?_
  rintro e w13 ⟨rfl, q13, rfl⟩
  have bel := (T.drewN q13).d1.bel
  clear T hc1 Bd1 hB
  go_wp2
  go_ret
  exact ⟨rfl, bel⟩
end Go.Proofs.Qxb6612865aFmt
