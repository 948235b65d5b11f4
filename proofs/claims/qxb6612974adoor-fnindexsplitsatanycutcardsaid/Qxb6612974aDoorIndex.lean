/-
  DERIVED. index and ZZindex: their contracts; zzReadsBack over zzCanonicalDecimalOf's. By an AI agent.
-/
import Derived.Test.Qxb6612974aDoorShelf
import Derived.Test.Qxb6612974aDoorPlain
import Derived.WalkKit
import Derived.WalkSpells
import Derived.WalkSmall
import Derived.Lib.SmallJoins
namespace Go.Proofs.Qxb6612974aDoor
open Go.RowKit Go.Lib

theorem hide {p : Prop} (h : p) : Hid p := h

theorem below_grow (w : World) (k : Nat) (os : Array Obj) : Below w.heap.size w (Sort.grow (w.drewN k) os) := by
  refine ⟨rfl, rfl, rfl, ?_, fun i hi => ?_⟩
  · show w.heap.size ≤ (w.heap ++ os).size
    simp
  · show (w.heap ++ os)[i]? = w.heap[i]?
    rw [Array.getElem?_append_left hi]

/-- the library's table of powers of ten is as its initialiser lays it -/
def Tab (w : World) : Prop := TabIs Tryd.prog w vtab .u64 pow10Tab

theorem gTab : Tryd.prog.globalNamed vtab = some 0 := by kernel_rfl

theorem Tab.below {w w' : World} (h : Tab w) (b : Below w.heap.size w w') : Tab w' := Joins.tab_stays gTab h b (Nat.le_refl _)

set_option maxHeartbeats 400000 in
theorem index9 (p : ByteArray) (i : Int) (h0 : -9223372036854775808 ≤ i) (h1 : i ≤ 9223372036854775807) (w : World) (hp : p.size ≤ 1048576) (ht : Tab w) :
    Calls Tryd.prog 9 #[.string p, .int .i64 i] w fun e w' => e = .returned (.string (idx p i)) ∧ Below w.heap.size w w' := by
  have hl := itoa_length_le i h0 h1
  have HT := hide ht
  clear ht
  go_enter Tryd.func9, Tryd.ntmps9
  go_wp2_with fail
  refine (strconv_Itoa i h0 h1 w HT.out).mono ?_
  rintro e w1 ⟨rfl, k, os, rfl⟩
  have hb := below_grow w k os
  generalize Sort.grow (w.drewN k) os = w1 at hb ⊢
  obtain ⟨d, hd⟩ : ∃ d : ByteArray, d = ⟨(itoa i).toArray⟩ := ⟨_, rfl⟩
  have hs : d.size ≤ 21 := by rw [hd]; simpa [ByteArray.size] using hl
  rw [← hd]
  have HD := hide hd
  clear hd
  go_wp2
  go_ret
  refine ⟨?_, hb⟩
  rw [HD.out]
  rfl

theorem index6 (p : ByteArray) (i : Int) (h0 : -9223372036854775808 ≤ i) (h1 : i ≤ 9223372036854775807) (w : World) (hp : p.size ≤ 1048576) (ht : Tab w) :
    Calls Tryd.prog 6 #[.string p, .int .i64 i] w fun e w' => e = .returned (.string (idx p i)) ∧ Below w.heap.size w w' := by
  go_enter Tryd.func6, Tryd.ntmps6
  go_wp2_with fail
  refine (index9 p i h0 h1 w hp ht).mono ?_
  rintro e w1 ⟨rfl, hb⟩
  go_wp2
  go_ret
  exact ⟨rfl, hb⟩
end Go.Proofs.Qxb6612974aDoor
