/-
  DERIVED. The decoder's state between two takes, as one relation; what a take does to it. By an AI agent.
-/
import Derived.Test.Qxb6612865aFmtTake
namespace Go.Proofs.Qxb6612865aFmt
open Go.RowKit Go.Extern.Stop Go.Stop Go.Extern

/-- w' is w with new blocks, and with writes to block bd alone. -/
structure Keeps (bd : Nat) (w w' : World) : Prop where
  os : w'.os = w.os
  tape : w'.tape = w.tape
  output : w'.output = w.output
  size : w.heap.size ≤ w'.heap.size
  block : ∀ k, k < w.heap.size → k ≠ bd → w'.heap[k]? = w.heap[k]?

theorem Keeps.cell {bd : Nat} {w w' : World} (h : Keeps bd w w') {p : Addr} (h1 : p.block < w.heap.size) (h2 : p.block ≠ bd) : w'.cell? p = w.cell? p := World.cell?_of_block (w := w) (h.block _ h1 h2)
theorem Keeps.frozen {bd : Nat} {w w' : World} (h : Keeps bd w w') {p : Addr} (h1 : p.block < w.heap.size) (h2 : p.block ≠ bd) : w'.frozen? p = w.frozen? p := World.frozen?_of_block (w := w) (h.block _ h1 h2)
theorem Keeps.below {bd : Nat} {W w w' : World} (h : Keeps bd w w') (b : Below W.heap.size W w) (hb : W.heap.size ≤ bd) : Below W.heap.size W w' :=
  b.trans ⟨h.os, h.tape, h.output, h.size, fun k hk => h.block k (Nat.lt_of_lt_of_le hk b.size) (by omega)⟩
theorem Keeps.setCell (bd o : Nat) (w : World) (v : Value) : Keeps bd w (w.setCell ⟨bd, o, none⟩ v) :=
  ⟨rfl, rfl, rfl, by simp, fun k _ hk => Below.heap_setCell _ _ _ _ hk⟩
theorem Keeps.belowSet {bd o : Nat} {w w1 : World} (b : Below w.heap.size w w1) (v : Value) : Keeps bd w (w1.setCell ⟨bd, o, none⟩ v) :=
  ⟨b.os, b.tape, b.output, by simpa using b.size, fun k h1 hk => (Below.heap_setCell _ _ _ _ hk).trans (b.block k h1)⟩
theorem Keeps.drewN {bd : Nat} {w w' : World} (h : Keeps bd w w') (n : Nat) : Keeps bd w (w'.drewN n) := ⟨h.os, h.tape, h.output, h.size, h.block⟩

/-- The decoder at block bd, over the bytes xs at block N, has read pos of them; failed: its error is set. -/
structure Dec (W w : World) (bd N : Nat) (xs : List Int) (pos : Nat) (failed : Bool) : Prop where
  bel : Below W.heap.size W w
  hbd : W.heap.size ≤ bd
  lbd : bd < w.heap.size
  hN : xs ≠ [] → W.heap.size ≤ N ∧ N < w.heap.size ∧ N ≠ bd
  bytes : ∀ i, i < xs.length → w.cell? ⟨N, i, none⟩ = some (.int .u8 (xs.getD i 0))
  hpos : pos ≤ xs.length
  buf : ∃ a, w.cell? ⟨bd, 0, none⟩ = some (.slice a (xs.length - pos) (xs.length - pos)) ∧ ((a = none ∧ xs = []) ∨ ∃ o, a = some ⟨N, o, none⟩ ∧ (xs.length ≠ pos → o = pos))
  ok : failed = false → w.cell? ⟨bd, 1, none⟩ = some .nilIface
  bad : failed = true → ∃ k, w.cell? ⟨bd, 1, none⟩ = some (.iface 50 (.pointer (some ⟨k, 0, none⟩)))
  fz0 : w.frozen? ⟨bd, 0, none⟩ = false
  fz1 : w.frozen? ⟨bd, 1, none⟩ = false

/-- Whatever else is written, this decoder stands. -/
theorem Dec.kept {W w w' : World} {bd N bx : Nat} {xs : List Int} {pos : Nat} {failed : Bool} (h : Dec W w bd N xs pos failed) (k : Keeps bx w w') (hx : W.heap.size ≤ bx) (h1 : bx ≠ bd) (h2 : xs ≠ [] → bx ≠ N) :
    Dec W w' bd N xs pos failed := by
  have hc0 : ∀ o, w'.cell? ⟨bd, o, none⟩ = w.cell? ⟨bd, o, none⟩ := fun o => k.cell h.lbd (Ne.symm h1)
  have hf0 : ∀ o, w'.frozen? ⟨bd, o, none⟩ = w.frozen? ⟨bd, o, none⟩ := fun o => k.frozen h.lbd (Ne.symm h1)
  refine ⟨k.below h.bel hx, h.hbd, Nat.lt_of_lt_of_le h.lbd k.size, fun hn => ?_, fun i hi => ?_, h.hpos, ?_, ?_, ?_, ?_, ?_⟩
  · obtain ⟨a, b, c⟩ := h.hN hn
    exact ⟨a, Nat.lt_of_lt_of_le b k.size, c⟩
  · have hn : xs ≠ [] := by intro e; subst e; simp at hi
    rw [k.cell (h.hN hn).2.1 (Ne.symm (h2 hn))]
    exact h.bytes i hi
  · rw [hc0]; exact h.buf
  · rw [hc0]; exact h.ok
  · rw [hc0]; exact h.bad
  · rw [hf0]; exact h.fz0
  · rw [hf0]; exact h.fz1

theorem Dec.drewN {W w : World} {bd N : Nat} {xs : List Int} {pos : Nat} {failed : Bool} (h : Dec W w bd N xs pos failed) (n : Nat) : Dec W (w.drewN n) bd N xs pos failed :=
  ⟨h.bel.trans ⟨rfl, rfl, rfl, Nat.le_refl _, fun _ _ => rfl⟩, h.hbd, h.lbd, h.hN, h.bytes, h.hpos, h.buf, h.ok, h.bad, h.fz0, h.fz1⟩

/-- what a slice of the clone's block reads -/
theorem Dec.bts {W w : World} {bd N : Nat} {xs : List Int} {pos : Nat} {failed : Bool} (h : Dec W w bd N xs pos failed) (a : Option Addr) (lo m : Nat) (hlm : lo + m ≤ xs.length) (ha : m ≠ 0 → a = some ⟨N, lo, none⟩) :
    Bts w a ((xs.drop lo).take m) := by
  intro hn
  have hm : m ≠ 0 := by intro e; subst e; simp at hn
  refine ⟨N, lo, ha hm, fun i hi => ?_⟩
  have hi' : i < m := by simp at hi; omega
  rw [h.bytes (lo + i) (by omega)]
  simp [List.getD_eq_getElem?_getD, List.getElem?_drop, hi']

/-- take where the bytes are there. -/
theorem Dec.take_ok {W w : World} {bd N : Nat} {xs : List Int} {pos : Nat} (h : Dec W w bd N xs pos false) (n : Nat) (hn : n ≤ xs.length - pos) (hm : xs.length ≤ 1048576) :
    Calls Tryf.prog 10 #[.pointer (some ⟨bd, 0, none⟩), .int .i64 n] w fun e w' => ∃ a1, e = .returned (.slice a1 n n) ∧ Bts w' a1 ((xs.drop pos).take n) ∧ Dec W w' bd N xs (pos + n) false ∧ Keeps bd w w' ∧ (n ≠ 0 → a1 = some ⟨N, pos, none⟩) := by
  have hp := h.hpos
  obtain ⟨a, hc, ha⟩ := h.buf
  rcases ha with ⟨rfl, rfl⟩ | ⟨o, rfl, ho⟩
  · simp at hn hp hc
    subst hn
    subst hp
    refine (take_none bd w hc (h.ok rfl) h.fz0).mono fun e w' ⟨he, hw⟩ => ?_
    subst hw
    refine ⟨none, he, fun hx => by simp at hx, ?_, Keeps.setCell _ _ _ _, fun hx => absurd rfl hx⟩
    refine ⟨h.bel.setCell h.hbd _, h.hbd, by simpa using h.lbd, fun hx => absurd rfl hx, fun i hi => by simp at hi, Nat.zero_le _, ⟨none, World.cell?_setCell_same _ _ _ hc, .inl ⟨rfl, rfl⟩⟩, fun _ => ?_, (fun hf => by cases hf), ?_, ?_⟩
    · rw [World.cell?_setCell_other _ _ _ _ (by simp)]; exact h.ok rfl
    · rw [World.frozen?_setCell]; exact h.fz0
    · rw [World.frozen?_setCell]; exact h.fz1
  · refine (take_some bd N o n (xs.length - pos) (xs.length - pos) w hn (Nat.le_refl _) (by unfold maxLen; omega) hc (h.ok rfl) h.fz0).mono fun e w' ⟨he, off', hw, hoff⟩ => ?_
    subst hw
    have hD : Dec W (w.setCell ⟨bd, 0, none⟩ (.slice (some ⟨N, off', none⟩) (xs.length - pos - n) (xs.length - pos - n))) bd N xs (pos + n) false := by
      refine ⟨h.bel.setCell h.hbd _, h.hbd, by simpa using h.lbd, fun hx => by simpa using h.hN hx, fun i hi => ?_, by omega, ⟨some ⟨N, off', none⟩, ?_, .inr ⟨off', rfl, fun hx => ?_⟩⟩, fun _ => ?_, (fun hf => by cases hf), ?_, ?_⟩
      · have hx : xs ≠ [] := by intro e; subst e; simp at hi
        rw [World.cell?_setCell_other _ _ _ _ (by simp; intro e; exact absurd e.symm (h.hN hx).2.2)]
        exact h.bytes i hi
      · rw [World.cell?_setCell_same _ _ _ hc, Nat.sub_sub]
      · rw [hoff (by omega), ho (by omega)]
      · rw [World.cell?_setCell_other _ _ _ _ (by simp)]; exact h.ok rfl
      · rw [World.frozen?_setCell]; exact h.fz0
      · rw [World.frozen?_setCell]; exact h.fz1
    exact ⟨some ⟨N, o, none⟩, he, hD.bts _ pos n (by omega) (fun hx => by rw [ho (by omega)]), hD, Keeps.setCell _ _ _ _, fun hx => by rw [ho (by omega)]⟩

/-- take where they are not: the error is set. -/
theorem Dec.take_short {W w : World} {bd N : Nat} {xs : List Int} {pos : Nat} (F : Interp) (a : Addr) (s : ByteArray) (h : Dec W w bd N xs pos false) (n : Nat) (hn : xs.length - pos < n) (hF : F.answers W.tape)
    (hg : W.cell? ⟨0, 0, none⟩ = some (.iface 53 (.pointer (some a)))) (hs : W.cell? a = some (.string s)) :
    Calls Tryf.prog 10 #[.pointer (some ⟨bd, 0, none⟩), .int .i64 n] w fun e w' => e = .returned (.slice none 0 0) ∧ Dec W w' bd N xs pos true ∧ Keeps bd w w' := by
  obtain ⟨ad, hc, ha⟩ := h.buf
  have l0 : 0 < W.heap.size := World.block_lt_of_cell? _ _ hg
  have la : a.block < W.heap.size := World.block_lt_of_cell? _ _ hs
  refine (take_fail F bd (xs.length - pos) (xs.length - pos) ad n a s w (by rw [h.bel.tape]; exact hF) hn ((h.bel.cell l0).trans hg) ((h.bel.cell la).trans hs) hc (h.ok rfl) h.fz1).mono fun e w' ⟨he, w1, k, bel, hw⟩ => ?_
  subst hw
  have hc0 : ∀ o, w1.cell? ⟨bd, o, none⟩ = w.cell? ⟨bd, o, none⟩ := fun o => bel.cell h.lbd
  have hf0 : ∀ o, w1.frozen? ⟨bd, o, none⟩ = w.frozen? ⟨bd, o, none⟩ := fun o => bel.frozen h.lbd
  have K : Keeps bd w (w1.setCell ⟨bd, 1, none⟩ (.iface 50 (.pointer (some ⟨k, 0, none⟩)))) := Keeps.belowSet bel _
  refine ⟨he, ⟨K.below h.bel h.hbd, h.hbd, Nat.lt_of_lt_of_le h.lbd K.size, fun hx => ?_, fun i hi => ?_, h.hpos, ⟨ad, ?_, ha⟩, (fun hf => by cases hf), fun _ => ⟨k, ?_⟩, ?_, ?_⟩, K⟩
  · obtain ⟨p, q, r⟩ := h.hN hx
    exact ⟨p, Nat.lt_of_lt_of_le q K.size, r⟩
  · have hx : xs ≠ [] := by intro e; subst e; simp at hi
    rw [K.cell (h.hN hx).2.1 (h.hN hx).2.2]
    exact h.bytes i hi
  · rw [World.cell?_setCell_other _ _ _ _ (by simp), hc0]; exact hc
  · exact World.cell?_setCell_same _ _ _ ((hc0 1).trans (h.ok rfl))
  · rw [World.frozen?_setCell, hf0]; exact h.fz0
  · rw [World.frozen?_setCell, hf0]; exact h.fz1

/-- take behind an error. -/
theorem Dec.take_bad {W w : World} {bd N : Nat} {xs : List Int} {pos : Nat} (h : Dec W w bd N xs pos true) (n : Nat) :
    Calls Tryf.prog 10 #[.pointer (some ⟨bd, 0, none⟩), .int .i64 n] w fun e w' => e = .returned (.slice none 0 0) ∧ Dec W w' bd N xs pos true ∧ Keeps bd w w' := by
  obtain ⟨k, hk⟩ := h.bad rfl
  refine (take_err bd 50 _ n w hk).mono fun e w' ⟨he, hw⟩ => ?_
  subst hw
  exact ⟨he, h, ⟨rfl, rfl, rfl, Nat.le_refl _, fun _ _ _ => rfl⟩⟩
end Go.Proofs.Qxb6612865aFmt
