/-
  DERIVED. take: its contracts. By an AI agent.
-/
import Derived.Test.Qxb6612865aFmtFail
namespace Go.Proofs.Qxb6612865aFmt
open Go.RowKit Go.Extern.Stop Go.Stop Go.Extern

theorem take_err (bd : Nat) (t : TypeId) (p : Option Addr) (n : Int) (w : World) (he : w.cell? ⟨bd, 1, none⟩ = some (.iface t (.pointer p))) :
    Calls Tryf.prog 10 #[.pointer (some ⟨bd, 0, none⟩), .int .i64 n] w fun e w' => e = .returned (.slice none 0 0) ∧ w' = w := by
  go_enter Tryf.func10, Tryf.ntmps10
  go_wp2
  go_ret
  exact ⟨rfl, rfl⟩

theorem take_some (bd b off n len cap : Nat) (w : World) (hn : n ≤ len) (hl : len ≤ cap) (hm : cap ≤ maxLen)
    (hb : w.cell? ⟨bd, 0, none⟩ = some (.slice (some ⟨b, off, none⟩) len cap)) (he : w.cell? ⟨bd, 1, none⟩ = some .nilIface) (hz : w.frozen? ⟨bd, 0, none⟩ = false) :
    Calls Tryf.prog 10 #[.pointer (some ⟨bd, 0, none⟩), .int .i64 n] w fun e w' => e = .returned (.slice (some ⟨b, off, none⟩) n n) ∧ ∃ off', w' = w.setCell ⟨bd, 0, none⟩ (.slice (some ⟨b, off', none⟩) (len - n) (cap - n)) ∧ (len ≠ n → off' = off + n) := by
  unfold maxLen at hm
  have hnl : (n : Int) ≤ (len : Int) := by omega
  by_cases hcn : cap = n
  · subst hcn
    go_enter Tryf.func10, Tryf.ntmps10
    go_wp2
    go_ret
    exact ⟨rfl, off, by rw [show len - cap = 0 from by omega, Nat.sub_self], fun h => by omega⟩
  · go_enter Tryf.func10, Tryf.ntmps10
    go_wp2
    go_ret
    exact ⟨rfl, off + n, rfl, fun _ => rfl⟩

theorem take_none (bd : Nat) (w : World)
    (hb : w.cell? ⟨bd, 0, none⟩ = some (.slice none 0 0)) (he : w.cell? ⟨bd, 1, none⟩ = some .nilIface) (hz : w.frozen? ⟨bd, 0, none⟩ = false) :
    Calls Tryf.prog 10 #[.pointer (some ⟨bd, 0, none⟩), .int .i64 0] w fun e w' => e = .returned (.slice none 0 0) ∧ w' = w.setCell ⟨bd, 0, none⟩ (.slice none 0 0) := by
  go_enter Tryf.func10, Tryf.ntmps10
  go_wp2
  go_ret
  exact ⟨rfl, rfl⟩

set_option maxHeartbeats 1600000 in
theorem take_fail19 (F : Interp) (bd len cap : Nat) (ao : Option Addr) (n : Nat) (a : Addr) (s : ByteArray) (w : World) (hF : F.answers w.tape) (hn : len < n)
    (hg : w.cell? ⟨0, 0, none⟩ = some (.iface 53 (.pointer (some a)))) (hs : w.cell? a = some (.string s))
    (hb : w.cell? ⟨bd, 0, none⟩ = some (.slice ao len cap)) (he : w.cell? ⟨bd, 1, none⟩ = some .nilIface) (hz : w.frozen? ⟨bd, 1, none⟩ = false) :
    Calls Tryf.prog 19 #[.pointer (some ⟨bd, 0, none⟩), .int .i64 n] w fun e w' => e = .returned (.slice none 0 0) ∧ ∃ w1 N, Below w.heap.size w w1 ∧ w' = w1.setCell ⟨bd, 1, none⟩ (.iface 50 (.pointer (some ⟨N, 0, none⟩))) := by
  have l0 : 0 < w.heap.size := World.block_lt_of_cell? _ _ hg
  have la : a.block < w.heap.size := World.block_lt_of_cell? _ _ hs
  have lb : bd < w.heap.size := World.block_lt_of_cell? _ _ he
  have hlt : (len : Int) < (n : Int) := by omega
  go_enter Tryf.func19, Tryf.ntmps19
  go_wp2_with fail
  refine (fail_any F bd w.heap.size len n a s _ (by exact hF) (by rw [World.cell?_alloc_lt _ _ _ l0]; exact hg) (by rw [World.cell?_alloc_lt _ _ _ la]; exact hs) (by rw [World.cell?_alloc_lt _ _ _ lb]; exact he) (by rw [((Below.refl _ w).alloc (Nat.le_refl _) _).frozen lb]; exact hz) (by simp) (by simp)).mono ?_
  rintro e w' ⟨rfl, w1, N, bel, rfl⟩
  have bel' : Below w.heap.size w w1 := ((Below.refl _ w).alloc (Nat.le_refl _) _).trans (bel.mono (by simp))
  clear bel hF hg hs hb he hz
  go_wp2
  go_ret
  exact ⟨rfl, w1, N, bel', rfl⟩

theorem take_fail (F : Interp) (bd len cap : Nat) (ao : Option Addr) (n : Nat) (a : Addr) (s : ByteArray) (w : World) (hF : F.answers w.tape) (hn : len < n)
    (hg : w.cell? ⟨0, 0, none⟩ = some (.iface 53 (.pointer (some a)))) (hs : w.cell? a = some (.string s))
    (hb : w.cell? ⟨bd, 0, none⟩ = some (.slice ao len cap)) (he : w.cell? ⟨bd, 1, none⟩ = some .nilIface) (hz : w.frozen? ⟨bd, 1, none⟩ = false) :
    Calls Tryf.prog 10 #[.pointer (some ⟨bd, 0, none⟩), .int .i64 n] w fun e w' => e = .returned (.slice none 0 0) ∧ ∃ w1 N, Below w.heap.size w w1 ∧ w' = w1.setCell ⟨bd, 1, none⟩ (.iface 50 (.pointer (some ⟨N, 0, none⟩))) := by
  go_enter Tryf.func10, Tryf.ntmps10
  go_wp2_with fail
  refine (take_fail19 F bd len cap ao n a s w hF hn hg hs hb he hz).mono ?_
  rintro e w' ⟨rfl, w1, N, bel, rfl⟩
  go_wp2
  go_ret
  exact ⟨rfl, w1, N, bel, rfl⟩
end Go.Proofs.Qxb6612865aFmt
