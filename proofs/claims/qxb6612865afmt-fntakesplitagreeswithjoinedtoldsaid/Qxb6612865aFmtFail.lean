/-
  DERIVED. fail and take: their contracts. By an AI agent.
-/
import Derived.Test.Qxb6612865aFmtClone
import Derived.Test.Qxb6612865aFmtStop
import Derived.BigCall
namespace Go.Proofs.Qxb6612865aFmt
open Go.RowKit Go.Extern.Stop Go.Stop Go.Extern
attribute [local go_sem] call26 guard fmt0 fmt0r op3_100w ptr53 elem53 isError53' ptr50 elem50 isError50'

theorem fmtCat : (⟨#[37, 119, 58, 32]⟩ ++ ⟨#[37, 100, 32, 98, 121, 116, 101, 115, 32, 108, 101, 102, 116, 44, 32, 119, 97, 110, 116, 32, 37, 100]⟩ : ByteArray) = ⟨#[37, 119, 58, 32, 37, 100, 32, 98, 121, 116, 101, 115, 32, 108, 101, 102, 116, 44, 32, 119, 97, 110, 116, 32, 37, 100]⟩ := by kernel_rfl

/-- fmt.Errorf at the format of 'take', a sentinel and two ints. -/
theorem errorf_any (F : Interp) (b c : Nat) (x y : Int) (a : Addr) (s : ByteArray) (w : World) (hF : F.answers w.tape)
    (h0 : w.cell? ⟨b, 0, none⟩ = some (.iface 53 (.pointer (some a)))) (h1 : w.cell? ⟨b, 1, none⟩ = some (.iface 3 (.int .i64 x))) (h2 : w.cell? ⟨b, 2, none⟩ = some (.iface 3 (.int .i64 y)))
    (hs : w.cell? a = some (.string s)) :
    Calls Tryf.prog 24 #[.string ⟨#[37, 119, 58, 32, 37, 100, 32, 98, 121, 116, 101, 115, 32, 108, 101, 102, 116, 44, 32, 119, 97, 110, 116, 32, 37, 100]⟩, .slice (some ⟨b, 0, none⟩) 3 c] w fun e w' => Below w.heap.size w w' ∧ ∃ N, e = .returned (.iface 50 (.pointer (some ⟨N, 0, none⟩))) := by
  have hF' := answers_open hF
  have hop := opPlain53_119w "fmt.errorf" a s w hs
  have hb : b < w.heap.size := World.block_lt_of_cell? _ _ h0
  go_enter Tryf.func24, Tryf.ntmps24
  go_wp2
  go_ret
  exact ⟨((Below.refl _ w).alloc (Nat.le_refl _) _).drew, _, rfl⟩

theorem Tryf.info20 : (Tryf.prog.info? 20).map (fun i => (i.zero, i.size, i.bytes)) = some (some .nilIface, 1, 16) := by kernel_rfl

theorem own_shape {w : World} {base e n : Nat} {v : Value} {xs : List Value} (hn : n ≠ 0) (h : w.ownsRow base e 1 v n xs) :
    ∃ g cap, v = .slice (some ⟨g, 0, none⟩) n cap ∧ base ≤ g ∧ g < w.heap.size ∧ ∀ j, j < n → w.cell? ⟨g, j, none⟩ = xs[j]? := by
  have h' := h
  rcases h'.2 with ⟨_, h0⟩ | ⟨g, cap, cur, rfl, hb, hg, _⟩
  · exact absurd h0 hn
  · refine ⟨g, cap, rfl, hb, ?_, fun j hj => h.cellAt j (by omega)⟩
    rcases Nat.lt_or_ge g w.heap.size with hlt | hge
    · exact hlt
    · rw [Array.getElem?_eq_none hge] at hg
      cases hg

set_option maxHeartbeats 1600000 in
/-- fail, on a decoder without an error, at the format of 'take': it sets the error; nothing else that was there turns. -/
theorem fail_any (F : Interp) (bd ab : Nat) (x y : Int) (a : Addr) (s : ByteArray) (w : World) (hF : F.answers w.tape)
    (hg : w.cell? ⟨0, 0, none⟩ = some (.iface 53 (.pointer (some a)))) (hs : w.cell? a = some (.string s))
    (he : w.cell? ⟨bd, 1, none⟩ = some .nilIface) (hz : w.frozen? ⟨bd, 1, none⟩ = false)
    (h0 : w.cell? ⟨ab, 0, none⟩ = some (.iface 3 (.int .i64 x))) (h1 : w.cell? ⟨ab, 1, none⟩ = some (.iface 3 (.int .i64 y))) :
    Calls Tryf.prog 21 #[.pointer (some ⟨bd, 0, none⟩), .string ⟨#[37, 100, 32, 98, 121, 116, 101, 115, 32, 108, 101, 102, 116, 44, 32, 119, 97, 110, 116, 32, 37, 100]⟩, .slice (some ⟨ab, 0, none⟩) 2 2] w fun e w' => e = .returned (.tuple #[]) ∧ ∃ w1 N, Below w.heap.size w w1 ∧ w' = w1.setCell ⟨bd, 1, none⟩ (.iface 50 (.pointer (some ⟨N, 0, none⟩))) := by
  obtain ⟨i0, hi, hz0, hz1, hz2⟩ := info_parts Tryf.info20
  have l0 : 0 < w.heap.size := World.block_lt_of_cell? _ _ hg
  have la : a.block < w.heap.size := World.block_lt_of_cell? _ _ hs
  have lb : bd < w.heap.size := World.block_lt_of_cell? _ _ he
  have lab : ab < w.heap.size := World.block_lt_of_cell? _ _ h0
  go_enter Tryf.func21, Tryf.ntmps21
  go_wp2_with (at_builtin; refine wpList_append_grows _ rfl (.tmp 15) (.tmp 16) 47 rfl 20 i0 .nilIface 1 16 Tryf.underlying47 hi hz0 hz1 hz2 rfl (by decide) (some ⟨w.heap.size, 0, none⟩) 1 1 [.iface 53 (.pointer (some a))] rfl (by simp) rfl ?c1 ⟨ab, 0, none⟩ 2 2 [.iface 3 (.int .i64 x), .iface 3 (.int .i64 y)] rfl rfl ?c2 ?c3 (by decide) (by decide) (by decide) ?_)
  case c1 =>
    intro b hb j u hj
    obtain rfl : b = ⟨w.heap.size, 0, none⟩ := by simpa using hb.symm
    match j, hj with
    | 0, hj => simp at hj; subst hj; simp [Addr.add]
  case c2 =>
    intro j u hj
    match j, hj with
    | 0, hj => simp at hj; subst hj; rw [World.cell?_alloc_lt _ _ _ (by simpa [Addr.add] using lab)]; simpa [Addr.add] using h0
    | 1, hj => simp at hj; subst hj; rw [World.cell?_alloc_lt _ _ _ (by simpa [Addr.add] using lab)]; simpa [Addr.add] using h1
  case c3 =>
    intro u hu
    simp at hu
    rcases hu with rfl | rfl <;> rfl
  · intro v' w1 hown hgrow
    obtain ⟨g, cap, hv, hbg, hgl, hcs⟩ := own_shape (by decide) hown
    have bel : Below w.heap.size w w1 := ((Below.refl _ w).alloc (Nat.le_refl _) _).grown hgrow (by simp) (by simp)
    have k0 := hcs 0 (by decide)
    have k1 := hcs 1 (by decide)
    have k2 := hcs 2 (by decide)
    have ks : w1.cell? a = some (.string s) := (bel.cell la).trans hs
    have ke : w1.cell? ⟨bd, 1, none⟩ = some .nilIface := (bel.cell lb).trans he
    have kz : w1.frozen? ⟨bd, 1, none⟩ = false := (bel.frozen lb).trans hz
    have hF1 : F.answers w1.tape := by rw [bel.tape]; exact hF
    have lb1 : bd < w1.heap.size := Nat.lt_of_lt_of_le lb bel.size
    clear hcs hown hgrow he hz h0 h1 hg hs hF
    rw [hv]
    clear hv
    simp at k0 k1 k2
    go_wp2_with fail
    rw [fmtCat]
    refine (errorf_any F g cap x y a s w1 hF1 k0 k1 k2 ks).mono ?_
    rintro e w2 ⟨bel2, N, rfl⟩
    have ke2 : w2.cell? ⟨bd, 1, none⟩ = some .nilIface := (bel2.cell lb1).trans ke
    have kz2 : w2.frozen? ⟨bd, 1, none⟩ = false := (bel2.frozen lb1).trans kz
    clear ke kz ks k0 k1 k2 hF1
    go_wp2
    go_end0
    exact ⟨rfl, w2, N, bel.trans (bel2.mono bel.size), rfl⟩
end Go.Proofs.Qxb6612865aFmt
