/-
  DERIVED. FnTakeScriptMatchesCursor: the walk. By an AI agent.
-/
import Derived.Test.Qxb6612865aFmtScript
namespace Go.Proofs.Qxb6612865aFmt
open Go.RowKit Go.Extern.Stop Go.Stop Go.Extern

theorem script_early (a0 a1 : Option Addr) (n0 c0 n1 c1 : Nat) (w : World) (hm0 : n0 ≤ maxLen) (hm1 : n1 ≤ maxLen) (h : 1048576 < n0 ∨ 65536 < n1 ∨ 1048576 < n0 + 8 * n1) :
    Calls Tryf.prog 3 #[.slice a0 n0 c0, .slice a1 n1 c1] w fun e w' => e = .returned (.bool true) ∧ w' = w := by
  unfold maxLen at hm0 hm1
  by_cases h0 : 1048576 < n0
  · go_enter Tryf.func3, Tryf.ntmps3
    go_wp2
    go_ret
    exact ⟨rfl, rfl⟩
  · by_cases h1 : 1048576 < n1
    · go_enter Tryf.func3, Tryf.ntmps3
      go_wp2
      go_ret
      exact ⟨rfl, rfl⟩
    · by_cases h2 : 1048576 < n0 + n1
      · go_enter Tryf.func3, Tryf.ntmps3
        go_wp2
        go_ret
        exact ⟨rfl, rfl⟩
      · by_cases h3 : 65536 < n1
        · go_enter Tryf.func3, Tryf.ntmps3
          go_wp2
          go_ret
          exact ⟨rfl, rfl⟩
        · go_enter Tryf.func3, Tryf.ntmps3
          go_wp2
          go_ret
          exact ⟨rfl, rfl⟩

set_option maxRecDepth 100000 in
set_option maxHeartbeats 1600000 in
theorem script_main (F : Interp) (a : Addr) (s : ByteArray) (a0 a1 : Option Addr) (n0 c0 n1 c1 : Nat) (xs zs : List Int) (w : World) (hF : F.answers w.tape)
    (hg : w.cell? ⟨0, 0, none⟩ = some (.iface 53 (.pointer (some a)))) (hs : w.cell? a = some (.string s))
    (hB : Bts w a0 xs) (hx : xs.length = n0) (hlc : n0 ≤ c0) (hnil : a0 = none → n0 = 0 ∧ c0 = 0)
    (hz : n1 ≠ 0 → ∃ b off, a1 = some ⟨b, off, none⟩ ∧ ∀ i, i < n1 → w.cell? ⟨b, off + i, none⟩ = some (.int .i64 (zs.getD i 0)))
    (h0 : n0 ≤ 1048576) (h1 : n1 ≤ 65536) (h2 : n0 + 8 * n1 ≤ 1048576) :
    Calls Tryf.prog 3 #[.slice a0 n0 c0, .slice a1 n1 c1] w fun e w' => e = .returned (.bool true) ∧ Below w.heap.size w w' := by
  go_enter Tryf.func3, Tryf.ntmps3
  go_wp2
  go_loop [5] (fun i => ∃ k : Nat, k ≤ n1 ∧ i = .int .i64 k ∧ ∀ j, j < k → 0 ≤ zs.getD j 0) (fun i => n1 - (intOf i).toNat)
  case atStart => exact ⟨0, Nat.zero_le _, rfl, fun j hj => by omega⟩
  case round =>
    obtain ⟨k, hk, rfl, hnn⟩ := hrel
    have HN : Hid (∀ j, j < k → 0 ≤ zs.getD j 0) := hnn
    clear hnn
    by_cases hlt : k < n1
    · obtain ⟨b, off, rfl, hc⟩ := hz (by omega)
      have g := hc k hlt
      obtain ⟨z, hzk⟩ : ∃ z, z = zs.getD k 0 := ⟨_, rfl⟩
      rw [← hzk] at g
      have HZ : Hid (z = zs.getD k 0) := hzk
      clear hzk
      by_cases hneg : z < 0
      · clear hc hz hB
        go_wp2
        go_ret
        exact ⟨rfl, Below.refl _ _⟩
      · clear hc hz hB
        go_wp2
        go_round
        case rel =>
          refine ⟨k + 1, by omega, by go_num, fun j hj => ?_⟩
          by_cases hjk : j < k
          · exact HN.out j hjk
          · obtain rfl : j = k := by omega
            rw [← HZ.out]
            omega
        case measure => simp [intOf]; omega
    · have hkn : n1 = k := by omega
      subst hkn
      go_wp2_with fail
      refine (clone_any w w (Below.refl _ _) a0 n0 c0 xs hB hx hnil h0).mono ?_
      rintro e w1 ⟨b1, a', N, rfl, hN, hc, ha⟩
      have D0 := Dec.mk' (Below.refl _ w) b1 hx hN hc ha
      clear hN hc ha b1 hnil
      go_wp2_with (go_at_call 8; refine (new_any a' n0 n0 w1).mono ?_; rintro e w2 ⟨rfl, rfl⟩)
      generalize w1.heap.size = bd at D0 ⊢
      generalize w1.alloc (.cells #[.slice a' n0 n0, .nilIface] 40) = w2 at D0 ⊢
      go_loopw [7, 8, 9] (fun pv fv iv wr => ∃ (k p : Nat) (f : Bool), k ≤ n1 ∧ iv = .int .i64 k ∧ pv = .int .i64 p ∧ fv = .bool f ∧ Dec w wr bd N xs p f) (fun _ _ iv _ => n1 - (intOf iv).toNat)
      case atStart => exact ⟨0, 0, false, Nat.zero_le _, rfl, rfl, rfl, D0⟩
      case round =>
        clear D0
        obtain ⟨k, p, f, hk, rfl, rfl, rfl, D⟩ := hrel
        by_cases hlt : k < n1
        · obtain ⟨b, off, rfl, hcz⟩ := hz (by omega)
          have hzk := HN.out k hlt
          obtain ⟨m, hm⟩ : ∃ m : Nat, zs.getD k 0 = (m : Int) := ⟨(zs.getD k 0).toNat, by omega⟩
          have g : wr.cell? ⟨b, off + k, none⟩ = some (.int .i64 (m : Int)) := by
            have := hcz k hlt
            rw [D.bel.cell (World.block_lt_of_cell? _ _ this), this, hm]
          clear hcz hz hzk hm
          have hp := D.hpos
          cases f
          · by_cases hfit : m ≤ n0 - p
            · obtain ⟨as1, hsl, Bs⟩ := sl_lh w a0 n0 c0 xs hB hx hlc p m (by omega)
              obtain ⟨as2, hst, Bt⟩ := sl_l w a0 n0 c0 xs hB hx hlc (p + m) (by omega)
              rw [Int.natCast_add] at hst
              have hfi : (m : Int) ≤ (n0 : Int) - (p : Int) := by omega
              go_wp2_with fail
              refine (D.take_ok m (by omega) (by omega)).mono ?_
              rintro e w3 ⟨as3, rfl, Bg, D', K⟩
              clear g D K
              have hl1 : ((xs.drop p).take m).length = m := by simp; omega
              go_wp2_with fail
              refine (eq_any as3 as1 m m m (c0 - p) _ _ w3 hl1 hl1 (by unfold maxLen; omega) Bg (Bs.below D'.bel)).mono ?_
              rintro e w4 ⟨rfl, q, rfl⟩
              rw [decide_eq_true rfl]
              have D4 := D'.drewN q
              clear D' Bg Bs hsl hl1
              generalize w3.drewN q = w4 at D4 ⊢
              go_wp2_with fail
              refine (err_nil bd w4 (D4.ok rfl)).mono ?_
              rintro e w5 ⟨rfl, rfl⟩
              obtain ⟨ad, hcd, Bd⟩ := D4.rest
              have hl2 : Hid ((xs.drop (p + m)).length = n0 - (p + m)) := by show _ = _; simp; omega
              rw [hx] at hcd
              have Bt4 := Bt.below D4.bel
              go_wp2_with fail
              go_quiet (first | (go_at_call 13; exact Calls.quiet_of_same (buf_any bd ad _ _ _ hcd)) | (go_at_call 11; exact Calls.quiet_of (eq_any ad as2 _ _ _ _ _ _ _ hl2.out hl2.out (by unfold maxLen; omega) (Bd.drewN _) (Bt4.drewN _))))
              have D5 := D4.drewN nq
              clear hcd Bd Bt4 hst Bt D4 hl2 hB hg hs hF
              go_wp2
              go_roundw
              case rel => exact ⟨k + 1, p + m, false, by omega, by go_num, by go_num, rfl, D5⟩
              case measure => simp [intOf]; omega
            · have hsh : (n0 : Int) - (p : Int) < (m : Int) := by omega
              obtain ⟨as2, hst, Bt⟩ := sl_l w a0 n0 c0 xs hB hx hlc p (by omega)
              have q22 : ∀ (w : World) (a : Option Addr) (n c n' c' : Nat), (binOp .neq 22 (.slice a n c) (.slice none n' c')).run Tryf.prog w = .ok (.bool (!a.isNone)) w := fun w a n c n' c' => run_neq_slice_nil_any w _ _ a n c n' c' Tryf.underlying22
              go_wp2_with fail
              refine (D.take_short F a s m (by omega) hF hg hs).mono ?_
              rintro e w3 ⟨rfl, D', K⟩
              clear g D K
              obtain ⟨kk, hbad⟩ := D'.bad rfl
              go_wp2_with fail
              refine (err_set bd 50 _ w3 hbad).mono ?_
              rintro e w5 ⟨rfl, rfl⟩
              clear hbad
              obtain ⟨ad, hcd, Bd⟩ := D'.rest
              have hl2 : Hid ((xs.drop p).length = n0 - p) := by show _ = _; simp; omega
              rw [hx] at hcd
              have Bt4 := Bt.below D'.bel
              go_wp2_with fail
              go_quiet (first | (go_at_call 13; exact Calls.quiet_of_same (buf_any bd ad _ _ _ hcd)) | (go_at_call 11; exact Calls.quiet_of (eq_any ad as2 _ _ _ _ _ _ _ hl2.out hl2.out (by unfold maxLen; omega) (Bd.drewN _) (Bt4.drewN _))))
              have D5 := D'.drewN nq
              clear hcd Bd Bt4 hst Bt D' hl2 hB hg hs hF
              go_wp2
              go_roundw
              case rel => exact ⟨k + 1, p, true, by omega, by go_num, by go_num, rfl, D5⟩
              case measure => simp [intOf]; omega
          · obtain ⟨as2, hst, Bt⟩ := sl_l w a0 n0 c0 xs hB hx hlc p (by omega)
            have q22 : ∀ (w : World) (a : Option Addr) (n c n' c' : Nat), (binOp .neq 22 (.slice a n c) (.slice none n' c')).run Tryf.prog w = .ok (.bool (!a.isNone)) w := fun w a n c n' c' => run_neq_slice_nil_any w _ _ a n c n' c' Tryf.underlying22
            go_wp2_with fail
            refine (D.take_bad m).mono ?_
            rintro e w3 ⟨rfl, D', K⟩
            clear g D K
            obtain ⟨kk, hbad⟩ := D'.bad rfl
            go_wp2_with fail
            refine (err_set bd 50 _ w3 hbad).mono ?_
            rintro e w5 ⟨rfl, rfl⟩
            clear hbad
            obtain ⟨ad, hcd, Bd⟩ := D'.rest
            have hl2 : Hid ((xs.drop p).length = n0 - p) := by show _ = _; simp; omega
            rw [hx] at hcd
            have Bt4 := Bt.below D'.bel
            go_wp2_with fail
            go_quiet (first | (go_at_call 13; exact Calls.quiet_of_same (buf_any bd ad _ _ _ hcd)) | (go_at_call 11; exact Calls.quiet_of (eq_any ad as2 _ _ _ _ _ _ _ hl2.out hl2.out (by unfold maxLen; omega) (Bd.drewN _) (Bt4.drewN _))))
            have D5 := D'.drewN nq
            clear hcd Bd Bt4 hst Bt D' hl2 hB hg hs hF
            go_wp2
            go_roundw
            case rel => exact ⟨k + 1, p, true, by omega, by go_num, by go_num, rfl, D5⟩
            case measure => simp [intOf]; omega
        · have hkn : n1 = k := by omega
          subst hkn
          have bel := D.bel
          clear D hz hB
          go_wp2
          go_ret
          exact ⟨rfl, bel⟩
end Go.Proofs.Qxb6612865aFmt
