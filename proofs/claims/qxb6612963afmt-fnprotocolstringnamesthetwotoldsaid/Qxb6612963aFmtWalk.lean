/-
  DERIVED. FnProtocolStringNamesTheTwo: the walk: fmt is never come to. By an AI agent.
-/
import Derived.Test.Qxb6612963aFmtRows
import Derived.WalkKit
import Derived.WalkSpells
import Derived.WalkSmall
namespace Go.Proofs.Qxb6612963aFmt
open Go.RowKit

/-- what the package-level variable holds: two strings, and a slice of the two names. -/
structure Names (w : World) (s0 s1 : ByteArray) (b off c : Nat) : Prop where
  h0 : w.cell? ⟨0, 0, none⟩ = some (.string s0)
  h1 : w.cell? ⟨0, 1, none⟩ = some (.string s1)
  h2 : w.cell? ⟨0, 2, none⟩ = some (.slice (some ⟨b, off, none⟩) 2 c)
  n0 : w.cell? ⟨b, off, none⟩ = some (.string ⟨#[110, 97, 116, 105, 118, 101]⟩)
  n1 : w.cell? ⟨b, off + 1, none⟩ = some (.string ⟨#[115, 51]⟩)

theorem Names.below {w w' : World} {s0 s1 : ByteArray} {b off c : Nat} (h : Names w s0 s1 b off c) (bel : Below w.heap.size w w') : Names w' s0 s1 b off c := by
  have l0 : 0 < w.heap.size := World.block_lt_of_cell? _ _ h.h0
  have lb : b < w.heap.size := World.block_lt_of_cell? _ _ h.n0
  exact ⟨(bel.cell (p := ⟨0, 0, none⟩) l0).trans h.h0, (bel.cell (p := ⟨0, 1, none⟩) l0).trans h.h1, (bel.cell (p := ⟨0, 2, none⟩) l0).trans h.h2, (bel.cell (p := ⟨b, off, none⟩) lb).trans h.n0, (bel.cell (p := ⟨b, off + 1, none⟩) lb).trans h.n1⟩

set_option maxRecDepth 100000 in
set_option maxHeartbeats 800000 in
theorem string0 (w : World) (s0 s1 : ByteArray) (b off c : Nat) (h : Names w s0 s1 b off c) :
    Calls Tryf.prog 4 #[.int .u8 0] w fun e w' => e = .returned (.string ⟨#[110, 97, 116, 105, 118, 101]⟩) ∧ Below w.heap.size w w' := by
  obtain ⟨h0, h1, h2, n0, n1⟩ := h
  have l0 : 0 < w.heap.size := World.block_lt_of_cell? _ _ h0
  have lb : b < w.heap.size := World.block_lt_of_cell? _ _ n0
  go_enter Tryf.func4, Tryf.ntmps4
  go_wp2
  go_ret
  exact ⟨rfl, by repeat (first | exact Below.refl _ _ | (refine Below.alloc ?_ (by simp) _) | (refine Below.drew ?_))⟩

set_option maxRecDepth 100000 in
set_option maxHeartbeats 800000 in
theorem string1 (w : World) (s0 s1 : ByteArray) (b off c : Nat) (h : Names w s0 s1 b off c) :
    Calls Tryf.prog 4 #[.int .u8 1] w fun e w' => e = .returned (.string ⟨#[115, 51]⟩) ∧ Below w.heap.size w w' := by
  obtain ⟨h0, h1, h2, n0, n1⟩ := h
  have l0 : 0 < w.heap.size := World.block_lt_of_cell? _ _ h0
  have lb : b < w.heap.size := World.block_lt_of_cell? _ _ n0
  go_enter Tryf.func4, Tryf.ntmps4
  go_wp2
  go_ret
  exact ⟨rfl, by repeat (first | exact Below.refl _ _ | (refine Below.alloc ?_ (by simp) _) | (refine Below.drew ?_))⟩

theorem early (p q : Int) (w : World) (h : 1 < p ∨ 1 < q) :
    Calls Tryf.prog 3 #[.int .u8 p, .int .u8 q] w fun e w' => e = .returned (.bool true) ∧ Below w.heap.size w w' := by
  by_cases hp : 1 < p
  · go_enter Tryf.func3, Tryf.ntmps3
    go_wp2
    go_ret
    exact ⟨rfl, Below.refl _ _⟩
  · have hq : 1 < q := by omega
    go_enter Tryf.func3, Tryf.ntmps3
    go_wp2
    go_ret
    exact ⟨rfl, Below.refl _ _⟩

set_option maxRecDepth 100000 in
set_option maxHeartbeats 1600000 in
theorem names_walk (p q : Int) (hp : 0 ≤ p) (hq : 0 ≤ q) (w : World) (s0 s1 : ByteArray) (b off c : Nat) (h : Names w s0 s1 b off c) :
    Calls Tryf.prog 3 #[.int .u8 p, .int .u8 q] w fun e w' => e = .returned (.bool true) ∧ Below w.heap.size w w' := by
  by_cases hb : 1 < p ∨ 1 < q
  · exact early p q w hb
  · have hp' : p = 0 ∨ p = 1 := by omega
    have hq' : q = 0 ∨ q = 1 := by omega
    clear hp hq hb
    rcases hp' with rfl | rfl <;> rcases hq' with rfl | rfl
    · go_enter Tryf.func3, Tryf.ntmps3
      go_wp2_with fail
      refine (string0 w s0 s1 b off c h).mono ?_
      rintro e w1 ⟨rfl, b1⟩
      go_wp2_with fail
      refine (string0 w1 s0 s1 b off c (h.below b1)).mono ?_
      rintro e w2 ⟨rfl, b2⟩
      go_wp2
      go_ret
      exact ⟨rfl, b1.trans (b2.mono b1.size)⟩
    · go_enter Tryf.func3, Tryf.ntmps3
      go_wp2_with fail
      refine (string0 w s0 s1 b off c h).mono ?_
      rintro e w1 ⟨rfl, b1⟩
      go_wp2_with fail
      refine (string1 w1 s0 s1 b off c (h.below b1)).mono ?_
      rintro e w2 ⟨rfl, b2⟩
      go_wp2
      go_ret
      exact ⟨rfl, b1.trans (b2.mono b1.size)⟩
    · go_enter Tryf.func3, Tryf.ntmps3
      go_wp2_with fail
      refine (string1 w s0 s1 b off c h).mono ?_
      rintro e w1 ⟨rfl, b1⟩
      go_wp2_with fail
      refine (string0 w1 s0 s1 b off c (h.below b1)).mono ?_
      rintro e w2 ⟨rfl, b2⟩
      go_wp2
      go_ret
      exact ⟨rfl, b1.trans (b2.mono b1.size)⟩
    · go_enter Tryf.func3, Tryf.ntmps3
      go_wp2_with fail
      refine (string1 w s0 s1 b off c h).mono ?_
      rintro e w1 ⟨rfl, b1⟩
      go_wp2_with fail
      refine (string1 w1 s0 s1 b off c (h.below b1)).mono ?_
      rintro e w2 ⟨rfl, b2⟩
      go_wp2
      go_ret
      exact ⟨rfl, b1.trans (b2.mono b1.size)⟩
end Go.Proofs.Qxb6612963aFmt
