/-
  DERIVED. FnTakeSplitAgreesWithJoined: the walk. By an AI agent.
-/
import Derived.Test.Qxb6612865aFmtScript
import Derived.Deep.RegionWith
namespace Go.Proofs.Qxb6612865aFmt
open Go.RowKit Go.Extern.Stop Go.Stop Go.Extern

set_option maxRecDepth 100000 in
theorem split_early (a0 : Option Addr) (n0 c0 : Nat) (a b : Int) (w : World) (hm0 : n0 ≤ maxLen) (ha : -9223372036854775808 ≤ a ∧ a ≤ 9223372036854775807) (hb : b ≤ 9223372036854775807) (h : 1048576 < n0 ∨ a < 0 ∨ b < 0 ∨ 9223372036854775807 < a + b) :
    Calls Tryf.prog 4 #[.slice a0 n0 c0, .int .i64 a, .int .i64 b] w fun e w' => e = .returned (.bool true) ∧ w' = w := by
  unfold maxLen at hm0
  by_cases h0 : 1048576 < n0
  · go_enter Tryf.func4, Tryf.ntmps4
    go_wp2
    go_ret
    exact ⟨rfl, rfl⟩
  · by_cases h1 : a < 0
    · go_enter Tryf.func4, Tryf.ntmps4
      go_wp2
      go_ret
      exact ⟨rfl, rfl⟩
    · by_cases h2 : b < 0
      · go_enter Tryf.func4, Tryf.ntmps4
        go_wp2
        go_ret
        exact ⟨rfl, rfl⟩
      · have h3 : 9223372036854775807 - a < b := by omega
        go_enter Tryf.func4, Tryf.ntmps4
        go_wp2
        go_ret
        exact ⟨rfl, rfl⟩

/-- zzEq of two slices that hold the same bytes. -/
theorem eq_same (a1 a2 : Option Addr) (n c1 c2 : Nat) (l : List Int) (w : World) (hl : l.length = n) (hm : n ≤ 1048576) (B1 : Bts w a1 l) (B2 : Bts w a2 l) :
    Calls Tryf.prog 11 #[.slice a1 n c1, .slice a2 n c2] w fun e w' => e = .returned (.bool true) ∧ ∃ k, w' = w.drewN k :=
  (eq_any a1 a2 n n c1 c2 l l w hl hl (by unfold maxLen; omega) B1 B2).mono fun e w' ⟨he, hk⟩ => ⟨by rw [he, decide_eq_true rfl], hk⟩

/-- Two decoders over two copies. -/
structure Two (W w : World) (b1 N1 b2 N2 : Nat) (xs : List Int) (p1 p2 : Nat) (f1 f2 : Bool) : Prop where
  d1 : Dec W w b1 N1 xs p1 f1
  d2 : Dec W w b2 N2 xs p2 f2
  ne : b1 ≠ b2
  n12 : xs ≠ [] → b1 ≠ N2
  n21 : xs ≠ [] → b2 ≠ N1

theorem Two.step1 {W w w' : World} {b1 N1 b2 N2 : Nat} {xs : List Int} {p1 p2 q1 : Nat} {f1 f2 g1 : Bool} (h : Two W w b1 N1 b2 N2 xs p1 p2 f1 f2) (d : Dec W w' b1 N1 xs q1 g1) (k : Keeps b1 w w') : Two W w' b1 N1 b2 N2 xs q1 p2 g1 f2 :=
  ⟨d, h.d2.kept k h.d1.hbd h.ne h.n12, h.ne, h.n12, h.n21⟩
theorem Two.step2 {W w w' : World} {b1 N1 b2 N2 : Nat} {xs : List Int} {p1 p2 q2 : Nat} {f1 f2 g2 : Bool} (h : Two W w b1 N1 b2 N2 xs p1 p2 f1 f2) (d : Dec W w' b2 N2 xs q2 g2) (k : Keeps b2 w w') : Two W w' b1 N1 b2 N2 xs p1 q2 f1 g2 :=
  ⟨h.d1.kept k h.d2.hbd (Ne.symm h.ne) h.n21, d, h.ne, h.n12, h.n21⟩
theorem Two.drewN {W w : World} {b1 N1 b2 N2 : Nat} {xs : List Int} {p1 p2 : Nat} {f1 f2 : Bool} (h : Two W w b1 N1 b2 N2 xs p1 p2 f1 f2) (n : Nat) : Two W (w.drewN n) b1 N1 b2 N2 xs p1 p2 f1 f2 :=
  ⟨h.d1.drewN n, h.d2.drewN n, h.ne, h.n12, h.n21⟩

theorem Two.mk' {W w2 w3 : World} {b1 N1 N2 : Nat} {xs : List Int} {a' : Option Addr} {len : Nat} (D1 : Dec W w2 b1 N1 xs 0 false) (b3 : Below w2.heap.size w2 w3) (hl : xs.length = len) (hN : xs ≠ [] → w2.heap.size ≤ N2 ∧ N2 < w3.heap.size)
    (hc : ∀ i, i < xs.length → w3.cell? ⟨N2, i, none⟩ = some (.int .u8 (xs.getD i 0))) (ha : (a' = none ∧ xs = []) ∨ a' = some ⟨N2, 0, none⟩) :
    Two W (w3.alloc (.cells #[.slice a' len len, .nilIface] 40)) b1 N1 w3.heap.size N2 xs 0 0 false false := by
  have l1 := D1.lbd
  have l3 := b3.size
  have bel : Below w2.heap.size w2 (w3.alloc (.cells #[.slice a' len len, .nilIface] 40)) := b3.alloc l3 _
  refine ⟨D1.kept (bx := w3.heap.size) ⟨bel.os, bel.tape, bel.output, bel.size, fun k hk _ => bel.block k hk⟩ (Nat.le_trans D1.bel.size l3) (by omega) (fun h => ?_), Dec.mk' D1.bel b3 hl hN hc ha, by omega, fun h => ?_, fun h => ?_⟩
  · have := (D1.hN h).2.1; omega
  · have := (hN h).1; omega
  · have := (D1.hN h).2.1; omega

set_option maxRecDepth 100000 in
set_option maxHeartbeats 1600000 in
theorem split_fit (a0 : Option Addr) (n0 c0 : Nat) (a b : Nat) (xs : List Int) (w : World)
    (hB : Bts w a0 xs) (hx : xs.length = n0) (hlc : n0 ≤ c0) (hnil : a0 = none → n0 = 0 ∧ c0 = 0)
    (h0 : n0 ≤ 1048576) (hab : a + b ≤ n0) :
    Calls Tryf.prog 4 #[.slice a0 n0 c0, .int .i64 a, .int .i64 b] w fun e w' => e = .returned (.bool true) ∧ Below w.heap.size w w' := by
  have ht : (b : Int) ≤ 9223372036854775807 - (a : Int) := by omega
  go_enter Tryf.func4, Tryf.ntmps4
  go_wp2_with (go_at_call 14; go_in)
  refine (clone_any w w (Below.refl _ _) a0 n0 c0 xs hB hx hnil h0).mono ?_
  rintro e w1 ⟨k1, a1, N1, rfl, hN, hc, ha⟩
  have D0 := Dec.mk' (Below.refl _ w) k1 hx hN hc ha
  clear hN hc ha k1
  go_wp2_with (go_at_call 8; refine (new_any a1 n0 n0 w1).mono ?_; rintro e w2 ⟨rfl, rfl⟩)
  generalize w1.heap.size = b1 at D0 ⊢
  generalize w1.alloc (.cells #[.slice a1 n0 n0, .nilIface] 40) = w2 at D0 ⊢
  refine (clone_any w w2 D0.bel a0 n0 c0 xs hB hx hnil h0).mono ?_
  rintro e w3 ⟨k3, a3, N2, rfl, hN, hc, ha⟩
  have T := Two.mk' D0 k3 hx hN hc ha
  clear hN hc ha k3 D0 hnil
  go_wp2_with (go_at_call 8; refine (new_any a3 n0 n0 w3).mono ?_; rintro e w4 ⟨rfl, rfl⟩)
  generalize w3.heap.size = b2 at T ⊢
  generalize w3.alloc (.cells #[.slice a3 n0 n0, .nilIface] 40) = w4 at T ⊢
  -- x := take(d1, a)
  refine (T.d1.take_ok a (by omega) (by omega)).mono ?_
  rintro e w5 ⟨ax, rfl, -, D5, K5, hax⟩
  replace T := T.step1 D5 K5
  clear D5 K5
  go_wp2_with fail
  -- y := take(d1, b)
  refine (T.d1.take_ok b (by omega) (by omega)).mono ?_
  rintro e w6 ⟨ay, rfl, -, D6, K6, hay⟩
  replace T := T.step1 D6 K6
  clear D6 K6
  rw [Nat.zero_add] at T hay
  go_wp2_with fail
  -- z := take(d2, total)
  have c7 := T.d2.take_ok (a + b) (by omega) (by omega)
  rw [Int.natCast_add] at c7
  refine c7.mono ?_
  clear c7
  rintro e w7 ⟨az, rfl, -, D7, K7, haz⟩
  replace T := T.step2 D7 K7
  clear D7 K7
  rw [Nat.zero_add] at T
  have Bx : Bts w7 ax (xs.take a) := T.d1.bts ax 0 a (by omega) hax
  have By : Bts w7 ay ((xs.drop a).take b) := T.d1.bts ay a b (by omega) hay
  have Bz : Bts w7 az (xs.take (a + b)) := T.d2.bts az 0 (a + b) (by omega) haz
  clear hax hay haz
  have lx : Hid ((xs.take a).length = a) := by show _ = _; simp; omega
  have ly : Hid (((xs.drop a).take b).length = b) := by show _ = _; simp; omega
  have lz : Hid ((xs.take (a + b)).length = a + b) := by show _ = _; simp; omega
  have lr : Hid ((xs.drop (a + b)).length = n0 - (a + b)) := by show _ = _; simp; omega
  obtain ⟨s1, r1, B1⟩ := sl_h w a0 n0 c0 xs hB hx hlc (a + b) (by omega)
  obtain ⟨s2, r2, B2⟩ := sl_h w7 az (a + b) (a + b) _ Bz lz.out (Nat.le_refl _) a (by omega)
  obtain ⟨s3, r3, B3⟩ := sl_l w7 az (a + b) (a + b) _ Bz lz.out (Nat.le_refl _) a (by omega)
  obtain ⟨s4, r4, B4⟩ := sl_l w a0 n0 c0 xs hB hx hlc (a + b) (by omega)
  rw [Int.natCast_add] at r1 r4
  rw [List.take_take, Nat.min_eq_left (by omega)] at B2
  rw [List.drop_take, Nat.add_sub_cancel_left] at B3
  rw [show a + b - a = b from by omega] at r3
  have B1' := B1.below T.d1.bel
  have B4' := B4.below T.d1.bel
  clear B1 B4
  go_wp2_with fail
  refine (eq_same az s1 (a + b) (a + b) c0 _ w7 lz.out (by omega) Bz B1').mono ?_
  rintro e w8 ⟨rfl, q8, rfl⟩
  replace T := T.drewN q8
  replace Bx := Bx.drewN q8
  replace By := By.drewN q8
  replace B2 := B2.drewN q8
  replace B3 := B3.drewN q8
  replace B4' := B4'.drewN q8
  clear Bz B1' r1
  generalize w7.drewN q8 = w8 at T Bx By B2 B3 B4' ⊢
  go_wp2_with fail
  refine (eq_same ax s2 a a (a + b) _ w8 lx.out (by omega) Bx B2).mono ?_
  rintro e w9 ⟨rfl, q9, rfl⟩
  replace T := T.drewN q9
  replace By := By.drewN q9
  replace B3 := B3.drewN q9
  replace B4' := B4'.drewN q9
  clear Bx B2 r2
  generalize w8.drewN q9 = w9 at T By B3 B4' ⊢
  go_wp2_with fail
  refine (eq_same ay s3 b b b _ w9 ly.out (by omega) By B3).mono ?_
  rintro e w10 ⟨rfl, q10, rfl⟩
  replace T := T.drewN q10
  replace B4' := B4'.drewN q10
  clear By B3 r3
  generalize w9.drewN q10 = w10 at T B4' ⊢
  go_wp2_with fail
  refine (err_nil b1 w10 (T.d1.ok rfl)).mono ?_
  rintro e w11 ⟨rfl, rfl⟩
  go_wp2_with fail
  refine (err_nil b2 w11 (T.d2.ok rfl)).mono ?_
  rintro e w12 ⟨rfl, rfl⟩
  obtain ⟨ad1, hc1, Bd1⟩ := T.d1.rest
  obtain ⟨ad2, hc2, Bd2⟩ := T.d2.rest
  rw [hx] at hc1 hc2
  go_wp2_with fail
  go_quiet (first
    | (go_at_call_of 13 b1; exact Calls.quiet_of_same (buf_any b1 ad1 _ _ _ hc1))
    | (go_at_call_of 13 b2; exact Calls.quiet_of_same (buf_any b2 ad2 _ _ _ hc2))
    | (go_at_call_of 11 ad1; exact Calls.quiet_of (eq_same ad1 s4 _ _ _ _ _ lr.out (by omega) (Bd1.drewN _) (B4'.drewN _)))
    | (go_at_call_of 11 ad2; exact Calls.quiet_of (eq_same ad2 s4 _ _ _ _ _ lr.out (by omega) (Bd2.drewN _) (B4'.drewN _))))
  have bel := (T.drewN nq).d1.bel
  clear T hc1 hc2 Bd1 Bd2 B4' r4 hB
  go_wp2
  go_ret
  exact ⟨rfl, bel⟩
end Go.Proofs.Qxb6612865aFmt
