/-
  DERIVED. FnFieldsErrorsTellColumnsApart: the walk. By an AI agent.
-/
import Derived.Test.Qxb6612872aReadWalk
namespace Go.Proofs.Qxb6612872a
open Go.RowKit

/-- six strings at the head of block B -/
def Row (wr : World) (B : Nat) (g : Nat → ByteArray) : Prop := ∀ j, j < 6 → wr.cell? ⟨B, j, none⟩ = some (.string (g j))
/-- the FieldError text of name j -/
def txt (msg : ByteArray) (j : Nat) : ByteArray := nm j ++ ⟨#[58, 32]⟩ ++ msg
/-- .. of the first k names; the rest empty -/
def txtTo (msg : ByteArray) (k j : Nat) : ByteArray := if j < k then txt msg j else ⟨#[]⟩

theorem Row.drewN {wr : World} {B : Nat} {g : Nat → ByteArray} (h : Row wr B g) (n : Nat) : Row (wr.drewN n) B g := h
theorem Row.below {wr w' : World} {B : Nat} {g : Nat → ByteArray} (h : Row wr B g) (b : Below wr.heap.size wr w') : Row w' B g := fun j hj => by
  have := h j hj
  rw [b.cell (World.block_lt_of_cell? _ _ this)]
  exact this

theorem nm_inj {i j : Nat} (hi : i < 6) (hj : j < 6) (h : nm i = nm j) : i = j := by
  have h' : nmL i = nmL j := by
    have := congrArg (fun b : ByteArray => b.data.toList) h
    simpa [nm] using this
  have key : ∀ a : Fin 6, ∀ b : Fin 6, nmL a.val = nmL b.val → a = b := by decide
  have := key ⟨i, hi⟩ ⟨j, hj⟩ h'
  exact Fin.mk.inj this

theorem nm_col {i : Nat} (hi : i < 6) : (58 : UInt8) ∉ (nm i).data.toList := by
  have key : ∀ a : Fin 6, (58 : UInt8) ∉ nmL a.val := by decide
  simpa [nm] using key ⟨i, hi⟩

theorem nm_pos {i : Nat} (hi : i < 6) : 0 < (nm i).size := by
  have key : ∀ a : Fin 6, 0 < (nmL a.val).length := by decide
  simpa [nm, ByteArray.size] using key ⟨i, hi⟩

theorem nm_len {i : Nat} (hi : i < 6) : (nm i).size ≤ 20 := by
  have key : ∀ a : Fin 6, (nmL a.val).length ≤ 20 := by decide
  simpa [nm, ByteArray.size] using key ⟨i, hi⟩

theorem nm_ne {i j : Nat} (hi : i < 6) (hj : j < 6) (h : i ≠ j) : ((nm i).toList == (nm j).toList) = false := by
  rw [eq_str]
  simp
  exact fun e => h (nm_inj hi hj e)

theorem txt_ne (msg : ByteArray) {i j : Nat} (hi : i < 6) (hj : j < 6) (h : i ≠ j) : ((txt msg i).toList == (txt msg j).toList) = false := by
  rw [eq_str]
  simp
  exact fun e => h (nm_inj hi hj (text_inj (nm_col hi) (nm_col hj) e).1)

set_option maxHeartbeats 400000 in
theorem bytes7_any (m : ByteArray) (w : World) (h : m.size ≤ maxLen) :
    Calls Try.prog 7 #[.string m] w fun e w' => ∃ b, e = .returned (.bool b) ∧ w' = w := by
  unfold maxLen at h
  go_enter Try.func7, Try.ntmps7
  go_wp2
  all_goals (go_ret; exact ⟨_, rfl, rfl⟩)

theorem make6 (w : World) : (Instr.makeSlice 22 (.int .i64 6) (.int .i64 6)).run Try.prog w = .ok (.slice (some ⟨w.heap.size, 0, none⟩) 6 6) (w.alloc (.cells #[.string ⟨#[]⟩, .string ⟨#[]⟩, .string ⟨#[]⟩, .string ⟨#[]⟩, .string ⟨#[]⟩, .string ⟨#[]⟩] 9)) := by kernel_rfl

set_option maxRecDepth 100000 in
set_option maxHeartbeats 1600000 in
theorem apart_walk (m : ByteArray) (w : World) (hm : m.size ≤ maxLen) :
    Calls Try.prog 4 #[.string m] w fun e w' => e = .returned (.bool true) ∧ Below w.heap.size w w' := by
  have H := hide hm
  have hmk := make6
  unfold maxLen at hm
  go_enter Try.func4, Try.ntmps4
  go_wp2_with fail
  refine (bytes7_any m w H.out).mono ?_
  rintro e w1 ⟨b, rfl, rfl⟩
  cases b
  · go_wp2
    go_ret
    exact ⟨rfl, Below.refl _ _⟩
  by_cases c1 : 1048576 < m.size
  · go_wp2
    go_ret
    exact ⟨rfl, Below.refl _ _⟩
  go_wp2_with (go_at_call 6; refine (fields_any w1).mono ?_; rintro e w2 ⟨rfl, rfl⟩)
  go_loopw [5] (fun i wr => ∃ k : Nat, k ≤ 6 ∧ i = .int .i64 k ∧ Below w1.heap.size w1 wr ∧ wr.heap.size = w1.heap.size + 2 ∧ Row wr w1.heap.size nm ∧ Row wr (w1.heap.size + 1) nm) (fun i _ => 6 - (intOf i).toNat)
  case atStart =>
    refine ⟨0, Nat.zero_le _, rfl, ((Below.refl _ w1).alloc (Nat.le_refl _) _).alloc (by simp) _, by simp, fun j hj => ?_, fun j hj => ?_⟩
    · rw [World.cell?_alloc_lt _ _ _ (by simp)]
      exact row_cell _ j hj w1 9 rfl
    · exact row_cell _ j hj _ 24 (by simp)
  case round =>
    obtain ⟨k, hk, rfl, bel, hsz, hN, hM⟩ := hrel
    by_cases hlt : k < 6
    · have HS := hide hsz
      clear hsz
      go_wp2
      obtain ⟨wo, rfl⟩ : ∃ wo : World, wo = wr := ⟨_, rfl⟩
      go_loopw [6, 7] (fun fv iv wr => ∃ (i : Nat) (f : Bool), i ≤ 6 ∧ iv = .int .i64 i ∧ fv = .bool f ∧ (k < i → f = true) ∧ ∃ q, wr = wo.drewN q) (fun _ iv _ => 6 - (intOf iv).toNat)
      case atStart => exact ⟨0, false, Nat.zero_le _, rfl, rfl, fun h => by omega, 0, rfl⟩
      case round =>
        obtain ⟨i, f, hi, rfl, rfl, hf, q, rfl⟩ := hrel
        have HF := hide hf
        clear hf
        by_cases hil : i < 6
        · have g1 := hN i hil
          have g2 := hM k hlt
          cases he : ((nm i).toList == (nm k).toList)
          · have hne : i ≠ k := by intro e; subst e; simp at he
            go_wp2_with fail
            go_quiet (fail)
            go_wp2
            go_roundw
            case rel => exact ⟨i + 1, f, by omega, by go_num, rfl, fun h => HF.out (by omega), q + nq, by simp⟩
            case measure => simp [intOf]; omega
          · go_wp2_with fail
            go_quiet (fail)
            go_wp2
            go_roundw
            case rel => exact ⟨i + 1, true, by omega, by go_num, rfl, fun _ => rfl, q + nq, by simp⟩
            case measure => simp [intOf]; omega
        · have hf1 := HF.out (by omega)
          subst hf1
          clear HF
          go_wp2
          go_roundw
          case rel => exact ⟨k + 1, by omega, by go_num, below_drewN bel q, HS.out, hN.drewN q, hM.drewN q⟩
          case measure => simp [intOf]; omega
    · go_wp2
      have S3 : Below w1.heap.size w1 (wr.alloc (.cells #[.string ⟨#[]⟩, .string ⟨#[]⟩, .string ⟨#[]⟩, .string ⟨#[]⟩, .string ⟨#[]⟩, .string ⟨#[]⟩] 9)) ∧ w1.heap.size + 2 < (wr.alloc (.cells #[.string ⟨#[]⟩, .string ⟨#[]⟩, .string ⟨#[]⟩, .string ⟨#[]⟩, .string ⟨#[]⟩, .string ⟨#[]⟩] 9)).heap.size ∧ Row (wr.alloc (.cells #[.string ⟨#[]⟩, .string ⟨#[]⟩, .string ⟨#[]⟩, .string ⟨#[]⟩, .string ⟨#[]⟩, .string ⟨#[]⟩] 9)) w1.heap.size nm ∧ Row (wr.alloc (.cells #[.string ⟨#[]⟩, .string ⟨#[]⟩, .string ⟨#[]⟩, .string ⟨#[]⟩, .string ⟨#[]⟩, .string ⟨#[]⟩] 9)) (w1.heap.size + 2) (txtTo m 0) ∧ ∀ j, (wr.alloc (.cells #[.string ⟨#[]⟩, .string ⟨#[]⟩, .string ⟨#[]⟩, .string ⟨#[]⟩, .string ⟨#[]⟩, .string ⟨#[]⟩] 9)).frozen? ⟨w1.heap.size + 2, j, none⟩ = false := by
        refine ⟨bel.alloc bel.size _, by simp; omega, hN.below ((Below.refl _ wr).alloc (Nat.le_refl _) _), fun j hj => ?_, fun j => ?_⟩
        · rw [← hsz]
          match j, hj with
          | 0, _ => simp [txtTo]
          | 1, _ => simp [txtTo]
          | 2, _ => simp [txtTo]
          | 3, _ => simp [txtTo]
          | 4, _ => simp [txtTo]
          | 5, _ => simp [txtTo]
        · rw [← hsz]; simp
      clear hM hN hsz bel hmk
      generalize wr.alloc (.cells #[.string ⟨#[]⟩, .string ⟨#[]⟩, .string ⟨#[]⟩, .string ⟨#[]⟩, .string ⟨#[]⟩, .string ⟨#[]⟩] 9) = w3 at S3 ⊢
      go_loopw [9] (fun i wr => ∃ k : Nat, k ≤ 6 ∧ i = .int .i64 k ∧ Below w1.heap.size w1 wr ∧ w1.heap.size + 2 < wr.heap.size ∧ Row wr w1.heap.size nm ∧ Row wr (w1.heap.size + 2) (txtTo m k) ∧ ∀ j, wr.frozen? ⟨w1.heap.size + 2, j, none⟩ = false) (fun i _ => 6 - (intOf i).toNat)
      case atStart => exact ⟨0, Nat.zero_le _, rfl, S3.1, S3.2.1, S3.2.2.1, S3.2.2.2.1, S3.2.2.2.2⟩
      case round =>
        clear S3
        obtain ⟨k, hk, rfl, bel, hsz, hN, hT, hz⟩ := hrel
        have HZ := hide hz
        clear hz
        by_cases hlt : k < 6
        · have g1 := hN k hlt
          have hp := nm_pos hlt
          have hs := nm_len hlt
          have KC := hide (nm_col hlt)
          have hp' : (((nm k).size : Int) == 0) = false := beq_eq_false_iff_ne.2 (by omega)
          go_wp2_with fail
          refine (index_any (nm k) wr (by unfold maxLen; omega)).mono ?_
          rintro e w4 ⟨rfl, rfl⟩
          rw [colon_none _ KC.out]
          go_wp2_with fail
          refine (text_any (nm k) m w4 (by omega) (by omega)).mono ?_
          rintro e w5 ⟨rfl, b5⟩
          have ht8 := hide (text_colon (nm k) m KC.out)
          have hth := text_head (nm k) m
          have hts : (nm k ++ ⟨#[58, 32]⟩ ++ m).size = (nm k).size + 2 + m.size := by simp [ByteArray.size_append]; rfl
          have htm := hide (show (nm k ++ ⟨#[58, 32]⟩ ++ m).size ≤ maxLen from by unfold maxLen; omega)
          have hto : (nm k).size ≤ (nm k ++ ⟨#[58, 32]⟩ ++ m).size := by omega
          obtain ⟨t, hte⟩ : ∃ t, t = nm k ++ ⟨#[58, 32]⟩ ++ m := ⟨_, rfl⟩
          rw [← hte] at ht8 hth htm hto ⊢
          have HT := hide hte
          clear hts hte
          go_wp2_with fail
          refine (index_any t w5 htm.out).mono ?_
          rintro e w6 ⟨rfl, rfl⟩
          rw [ht8.out]
          have gT : w6.cell? ⟨w1.heap.size + 2, k, none⟩ = some (.string (txtTo m k k)) := (hT.below b5) k hlt
          have gz : w6.frozen? ⟨w1.heap.size + 2, k, none⟩ = false := (b5.frozen hsz).trans (HZ.out k)
          have hsz6 : w1.heap.size + 2 < w6.heap.size := Nat.lt_of_lt_of_le hsz b5.size
          generalize txtTo m k k = old at gT
          go_wp2
          go_roundw
          case rel =>
            refine ⟨k + 1, by omega, by go_num, (bel.trans (b5.mono bel.size)).setCell (by simp) _, by simpa using hsz6, fun j hj => ?_, fun j hj => ?_, fun j => ?_⟩
            · rw [World.cell?_setCell_other _ _ _ _ (by simp)]
              exact (hN.below b5) j hj
            · by_cases hjk : j = k
              · subst hjk
                rw [World.cell?_setCell_same _ _ _ gT, HT.out]
                simp [txtTo, txt]
              · rw [World.cell?_setCell_other _ _ _ _ (by simp <;> omega), (hT.below b5) j hj]
                by_cases h1 : j < k
                · simp [txtTo, h1, Nat.lt_succ_of_lt h1]
                · have h2 : ¬ j < k + 1 := by omega
                  simp [txtTo, h1, h2]
            · rw [World.frozen?_setCell, b5.frozen hsz]
              exact HZ.out j
          case measure => simp [intOf]; omega
        · have hk6 : k = 6 := by omega
          subst hk6
          clear HZ
          have hX : Row wr (w1.heap.size + 2) (txt m) := fun j hj => by rw [hT j hj]; simp [txtTo, hj]
          clear hT
          go_wp2
          obtain ⟨wc, rfl⟩ : ∃ wc : World, wc = wr := ⟨_, rfl⟩
          go_loopw [12] (fun iv wr => ∃ i : Nat, i ≤ 6 ∧ iv = .int .i64 i ∧ ∃ q, wr = wc.drewN q) (fun iv _ => 6 - (intOf iv).toNat)
          case atStart => exact ⟨0, Nat.zero_le _, rfl, 0, rfl⟩
          case round =>
            obtain ⟨i, hi, rfl, q, rfl⟩ := hrel
            by_cases hil : i < 6
            · go_wp2
              go_loopw [13] (fun jv wr => ∃ j : Nat, i < j ∧ j ≤ 6 ∧ jv = .int .i64 j ∧ ∃ q, wr = wc.drewN q) (fun jv _ => 6 - (intOf jv).toNat)
              case atStart => exact ⟨i + 1, by omega, by omega, by go_num, q, rfl⟩
              case round =>
                obtain ⟨j, hij, hj, rfl, q2, rfl⟩ := hrel
                by_cases hjl : j < 6
                · have g1 := hN i hil
                  have g2 := hN j hjl
                  have g3 := hX i hil
                  have g4 := hX j hjl
                  have n1 := nm_ne hil hjl (by omega)
                  have n2 := txt_ne m hil hjl (by omega)
                  go_wp2_with fail
                  go_quiet (fail)
                  go_wp2
                  go_roundw
                  case rel => exact ⟨j + 1, by omega, by omega, by go_num, q2 + nq, by simp⟩
                  case measure => simp [intOf]; omega
                · go_wp2
                  go_roundw
                  case rel => exact ⟨i + 1, by omega, by go_num, q2, rfl⟩
                  case measure => simp [intOf]; omega
            · go_wp2
              go_ret
              exact ⟨rfl, below_drewN bel q⟩
end Go.Proofs.Qxb6612872a
