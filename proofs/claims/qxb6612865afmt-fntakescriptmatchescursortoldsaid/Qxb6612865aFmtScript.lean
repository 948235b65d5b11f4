/-
  DERIVED. FnTakeScriptMatchesCursor: the walk. By an AI agent.
-/
import Derived.Test.Qxb6612865aFmtDec
namespace Go.Proofs.Qxb6612865aFmt
open Go.RowKit Go.Extern.Stop Go.Stop Go.Extern

/-- what the walk is told of a slice of integers that came in (the skeleton's own word). -/
def IsRow (k : IntKind) (w : World) (a : Option Addr) (len cap : Nat) (zs : List Int) : Prop :=
  (a = none ∧ len = 0 ∧ cap = 0 ∧ zs = []) ∨
  ∃ x, a = some x ∧ len ≤ cap ∧ cap ≤ maxLen ∧ zs.length = cap ∧ (∀ i, i < zs.length → w.cell? (x.add i) = some (.int k (zs.getD i 0))) ∧ ∀ n ∈ zs, (Lit.int k n).wf = true

theorem add_at (b off i : Nat) : (⟨b, off, none⟩ : Addr).add i = ⟨b, off + i, none⟩ := by
  by_cases h : i = 0 <;> simp [Addr.add, h]
theorem sz5 (w : World) : (sizeOf (Tryf.prog.elem 22)).run Tryf.prog w = .ok 1 w := by kernel_rfl
theorem el22 : Tryf.prog.underlying 22 = some (.slice (Tryf.prog.elem 22)) := by kernel_rfl

/-- 'buf[lo:lo+m]' -/
theorem sl_lh (W : World) (a : Option Addr) (len cap : Nat) (xs : List Int) (hB : Bts W a xs) (hx : xs.length = len) (hlc : len ≤ cap) (lo m : Nat) (h : lo + m ≤ len) :
    ∃ a', (∀ w, (Instr.slice 22 (.slice a len cap) (some (.int .i64 (lo : Int))) (some (.int .i64 ((lo : Int) + (m : Int)))) none).run Tryf.prog w = .ok (.slice a' m (cap - lo)) w) ∧ Bts W a' ((xs.drop lo).take m) := by
  refine ⟨if cap = lo then a else a.map (·.add (lo * 1)), fun w => ?_, fun hn => ?_⟩
  · rw [run_slice_lh w 22 a len cap el22 .i64 .i64 (lo : Int) ((lo : Int) + (m : Int)) (by omega) (by omega) (by omega), sz5]
    simp only [Result.andThen, sliced, Int.toNat_natCast]
    rw [show ((lo : Int) + (m : Int)).toNat - lo = m from by omega]
  · have hm : m ≠ 0 := by intro e; subst e; simp at hn
    have hx0 : xs ≠ [] := by intro e; subst e; simp at hn
    obtain ⟨b, off, rfl, hc⟩ := hB hx0
    refine ⟨b, off + lo, ?_, fun i hi => ?_⟩
    · rw [if_neg (by omega)]; simp [Addr.add]
    · have hi' : i < m := by simp at hi; omega
      rw [Nat.add_assoc, hc (lo + i) (by omega)]
      simp [List.getD_eq_getElem?_getD, List.getElem?_drop, hi']

/-- 'buf[lo:]' -/
theorem sl_l (W : World) (a : Option Addr) (len cap : Nat) (xs : List Int) (hB : Bts W a xs) (hx : xs.length = len) (hlc : len ≤ cap) (lo : Nat) (h : lo ≤ len) :
    ∃ a', (∀ w, (Instr.slice 22 (.slice a len cap) (some (.int .i64 (lo : Int))) none none).run Tryf.prog w = .ok (.slice a' (len - lo) (cap - lo)) w) ∧ Bts W a' (xs.drop lo) := by
  refine ⟨if cap = lo then a else a.map (·.add (lo * 1)), fun w => ?_, fun hn => ?_⟩
  · rw [run_slice_l w 22 a len cap el22 .i64 (lo : Int) (by omega) (by omega), sz5]
    simp only [Result.andThen, sliced, Int.toNat_natCast]
  · have hm : lo < len := by
      rcases Nat.lt_or_ge lo len with hh | hh
      · exact hh
      · rw [List.drop_of_length_le (by omega)] at hn; exact absurd rfl hn
    have hx0 : xs ≠ [] := by intro e; subst e; simp at hn
    obtain ⟨b, off, rfl, hc⟩ := hB hx0
    refine ⟨b, off + lo, ?_, fun i hi => ?_⟩
    · rw [if_neg (by omega)]; simp [Addr.add]
    · have hi' : i < len - lo := by simp at hi; omega
      rw [Nat.add_assoc, hc (lo + i) (by omega)]
      simp [List.getD_eq_getElem?_getD, List.getElem?_drop]

/-- 'buf[:hi]' -/
theorem sl_h (W : World) (a : Option Addr) (len cap : Nat) (xs : List Int) (hB : Bts W a xs) (hx : xs.length = len) (hlc : len ≤ cap) (hi : Nat) (h : hi ≤ len) :
    ∃ a', (∀ w, (Instr.slice 22 (.slice a len cap) none (some (.int .i64 (hi : Int))) none).run Tryf.prog w = .ok (.slice a' hi cap) w) ∧ Bts W a' (xs.take hi) := by
  refine ⟨if cap = 0 then a else a.map (·.add (0 * 1)), fun w => ?_, fun hn => ?_⟩
  · rw [run_slice_h w 22 a len cap el22 .i64 (hi : Int) (by omega) (by omega), sz5]
    simp only [Result.andThen, sliced, Int.toNat_natCast, Nat.sub_zero]
  · have hm : hi ≠ 0 := by intro e; subst e; simp at hn
    have hx0 : xs ≠ [] := by intro e; subst e; simp at hn
    obtain ⟨b, off, rfl, hc⟩ := hB hx0
    refine ⟨b, off, ?_, fun i hi' => ?_⟩
    · rw [if_neg (by omega)]; simp [Addr.add]
    · have hi2 : i < hi := by simp at hi'; omega
      rw [hc i (by omega)]
      simp [List.getD_eq_getElem?_getD, hi2]

theorem Bts.below {W w : World} {a : Option Addr} {xs : List Int} (h : Bts W a xs) (bel : Below W.heap.size W w) : Bts w a xs := by
  intro hn
  obtain ⟨b, off, ha, hc⟩ := h hn
  refine ⟨b, off, ha, fun i hi => ?_⟩
  have hci := hc i hi
  rw [bel.cell (World.block_lt_of_cell? _ _ hci)]
  exact hci

theorem IsRow.bts {w : World} {a : Option Addr} {len cap : Nat} {zs : List Int} (h : IsRow .u8 w a len cap zs) : Bts w a (zs.take len) ∧ (zs.take len).length = len ∧ len ≤ cap := by
  rcases h with ⟨rfl, rfl, rfl, rfl⟩ | ⟨x, rfl, hl, hm, hz, hcell, hwz⟩
  · exact ⟨fun hn => by simp at hn, rfl, Nat.le_refl _⟩
  · refine ⟨fun hn => ?_, by simp; omega, hl⟩
    have hp : 0 < len := by
      rcases Nat.eq_zero_or_pos len with e | e
      · subst e; simp at hn
      · exact e
    obtain ⟨b, off, spot⟩ := x
    have hs : spot = none := by simpa [Addr.add] using World.cell?_spot (hcell 0 (by omega))
    subst hs
    refine ⟨b, off, rfl, fun i hi => ?_⟩
    have hi' : i < len := by simp at hi; omega
    have := hcell i (by omega)
    rw [add_at] at this
    rw [this]
    simp [List.getD_eq_getElem?_getD, hi']

/-- zzClone, then ZZnewDecoder: a decoder over a copy, nothing read. -/
theorem clone_any (W w : World) (bel : Below W.heap.size W w) (a : Option Addr) (len cap : Nat) (xs : List Int) (hB : Bts W a xs) (hx : xs.length = len) (hn : a = none → len = 0 ∧ cap = 0) (hm : len ≤ 1048576) :
    Calls Tryf.prog 9 #[.slice a len cap] w fun e w' => Below w.heap.size w w' ∧ ∃ a' N, e = .returned (.slice a' len len) ∧ (xs ≠ [] → w.heap.size ≤ N ∧ N < w'.heap.size) ∧ (∀ i, i < xs.length → w'.cell? ⟨N, i, none⟩ = some (.int .u8 (xs.getD i 0))) ∧ ((a' = none ∧ xs = []) ∨ a' = some ⟨N, 0, none⟩) := by
  cases a with
  | none =>
    obtain ⟨rfl, rfl⟩ := hn rfl
    obtain rfl : xs = [] := List.length_eq_zero_iff.1 hx
    refine (clone_nil w).mono fun e w' ⟨he, hw⟩ => ?_
    subst hw
    exact ⟨Below.refl _ _, none, 0, he, fun h => absurd rfl h, fun i hi => by simp at hi, .inl ⟨rfl, rfl⟩⟩
  | some ad =>
    refine (clone_some ad len cap xs w hx hm (hB.below bel)).mono fun e w' ⟨arr, he, hw, hs, hc⟩ => ?_
    subst hw
    refine ⟨(Below.refl _ _).alloc (Nat.le_refl _) _, _, w.heap.size, he, fun _ => ⟨Nat.le_refl _, by simp⟩, fun i hi => ?_, .inr rfl⟩
    have := hc i (by omega)
    simp [this]

theorem Dec.mk' {W w w1 : World} (b1 : Below W.heap.size W w) (b2 : Below w.heap.size w w1) {a' : Option Addr} {N : Nat} {xs : List Int} {len : Nat} (hl : xs.length = len) (hN : xs ≠ [] → w.heap.size ≤ N ∧ N < w1.heap.size) (hc : ∀ i, i < xs.length → w1.cell? ⟨N, i, none⟩ = some (.int .u8 (xs.getD i 0)))
    (ha : (a' = none ∧ xs = []) ∨ a' = some ⟨N, 0, none⟩) : Dec W (w1.alloc (.cells #[.slice a' len len, .nilIface] 40)) w1.heap.size N xs 0 false := by
  have hw1 : W.heap.size ≤ w1.heap.size := Nat.le_trans b1.size b2.size
  have b3 : Below W.heap.size W w1 := b1.trans (b2.mono b1.size)
  refine ⟨b3.alloc hw1 _, hw1, by simp, fun h => ?_, fun i hi => ?_, Nat.zero_le _, ⟨a', by simp [hl], ?_⟩, fun _ => by simp, (fun hf => by cases hf), by simp, by simp⟩
  · obtain ⟨p, q⟩ := hN h
    exact ⟨Nat.le_trans b1.size p, by simp; omega, by omega⟩
  · have h : xs ≠ [] := by intro e; subst e; simp at hi
    rw [World.cell?_alloc_lt _ _ _ (hN h).2]
    exact hc i hi
  · rcases ha with h | h
    · exact .inl h
    · exact .inr ⟨0, h, fun _ => rfl⟩

theorem Bts.drewN {w : World} {a : Option Addr} {xs : List Int} (h : Bts w a xs) (n : Nat) : Bts (w.drewN n) a xs := fun hn => h hn

/-- what the decoder has left -/
theorem Dec.rest {W w : World} {bd N : Nat} {xs : List Int} {pos : Nat} {failed : Bool} (h : Dec W w bd N xs pos failed) :
    ∃ ad, w.cell? ⟨bd, 0, none⟩ = some (.slice ad (xs.length - pos) (xs.length - pos)) ∧ Bts w ad (xs.drop pos) := by
  have hp := h.hpos
  obtain ⟨ad, hc, ha⟩ := h.buf
  refine ⟨ad, hc, ?_⟩
  rcases ha with ⟨rfl, rfl⟩ | ⟨o, rfl, ho⟩
  · intro hn; simp at hn
  · have := h.bts (some ⟨N, o, none⟩) pos (xs.length - pos) (by omega) (fun hx => by rw [ho (by omega)])
    rw [List.take_of_length_le (by simp)] at this
    exact this
end Go.Proofs.Qxb6612865aFmt
