/-
  DERIVED. What the listed variable holds, out of the row's 'laid'; that it reads again behind the call. By an AI agent.
-/
import Derived.Test.Qxb6612963aFmtWalk
import Derived.ProofKit
import Derived.SliceStrings
import Derived.Deep.Strs
import Derived.ChangeOld
import Derived.Carry
import Derived.Stop.LaidErr
namespace Go.Proofs.Qxb6612963aFmt
open Go.ChangeShapes Go.WideShapes Go.ChangeAt Go.RowKit

abbrev vname : String := Rows.fnProtocolStringNamesTheTwoRow.named.headD ""
theorem gE : Tryf.prog.globalNamed vname = some 0 := by kernel_rfl
theorem gEType : (Tryf.prog.globals[0]?).map (·.type) = some 27 := by kernel_rfl
theorem cells27 : Tryf.prog.cellsOf 27 = 3 := by kernel_rfl
theorem cells9 : Tryf.prog.cellsOf 9 = 1 := by kernel_rfl
theorem cells25 : Tryf.prog.cellsOf 25 = 1 := by kernel_rfl
theorem laidOut' : laidOutB Tryf.prog = true := by kernel_rfl

theorem bytes_of {s : ByteArray} {l : List UInt8} (h : s.data.toList = l) : s = ⟨l.toArray⟩ := by
  obtain ⟨a⟩ := s
  have h' : a.toList = l := h
  subst h'
  simp

theorem three {cs : Array Value} (h : cs.toList.length = 3) : ∃ a b c, cs = #[a, b, c] := by
  obtain ⟨l⟩ := cs
  match l, h with
  | [a, b, c], _ => exact ⟨a, b, c, rfl⟩

theorem names_of_laid {W : World} (h : laidMet Tryf.prog Rows.fnProtocolStringNamesTheTwoRow.laid W) : ∃ s0 s1 b off c, Names W s0 s1 b off c := by
  obtain ⟨ps, ⟨g0, t0, cs0, f0, p0, q0, hg0, ht0, hv0, hd0, _, e0⟩, _, hrows⟩ := h
  obtain rfl := Option.some.inj (gE.symm.trans hg0)
  obtain rfl := Option.some.inj (gEType.symm.trans ht0)
  obtain ⟨y0, y1, y2, n, hx, hl, k0, k1, k2⟩ := Deep.trod_struct3 Tryf.underlying27 hd0
  rw [cells27] at hl
  obtain ⟨a, b, c, rfl⟩ := three hl
  simp [cells9, cells25] at k0 k1 k2
  obtain ⟨s0, e0, _, _⟩ := DataW.trod_string Tryf.underlying9 k0
  obtain ⟨s1, e1, _, _⟩ := DataW.trod_string Tryf.underlying9 k1
  have c0 := World.var?_cell gE hv0 0
  have c1 := World.var?_cell gE hv0 1
  have c2 := World.var?_cell gE hv0 2
  simp at e0 e1 c0 c1 c2
  subst e0 e1
  simp only [Prod.mk.injEq, Rows.laid_example_com_isimud_isimud_protocolNames, DataW.agg.injEq, List.cons.injEq] at hx
  obtain ⟨⟨_, _, hy2, _⟩, _⟩ := hx
  rcases open_strings Tryf.underlying25 Tryf.underlying9 cells9 k2 with ⟨_, hn⟩ | ⟨ad, len, cap, ss, hcs, _, hle, _, hss, hy, hcell, _⟩
  · rw [hn] at hy2
    cases hy2
  · rw [hy] at hy2
    simp at hcs
    subst hcs
    simp only [DataW.slice.injEq] at hy2
    obtain ⟨hel, hsp⟩ := hy2
    have hss' : ss.length = cap := by simpa using hss
    have hl2 : (ss.take len).length = 2 := by
      have := congrArg List.length hel
      simpa [strs] using this.symm
    have hd0 : (ss.drop len).length = 0 := by
      have := congrArg List.length hsp
      simpa [strs] using this.symm
    have hlen : len = 2 := by simp at hl2 hd0; omega
    subst hlen
    have hcap : cap = 2 := by simp at hd0; omega
    match ss, hss', hel, hcell with
    | [x0, x1], _, hel, hcell =>
      simp [strs] at hel
      obtain ⟨hx0, hx1⟩ := hel
      obtain ⟨b, off, spot⟩ := ad
      have r0 := hcell 0 (by simp)
      have r1 := hcell 1 (by simp)
      have hsp : spot = none := by simpa [Addr.add] using World.cell?_spot r0
      subst hsp
      simp [Addr.add] at r0 r1
      rw [bytes_of hx0.symm] at r0
      rw [bytes_of hx1.symm] at r1
      exact ⟨s0, s1, b, off, cap, c0, c1, c2, r0, r1⟩
    | [], h, _, _ => simp at h; omega
    | [_], h, _, _ => simp at h; omega
    | _ :: _ :: _ :: _, h, _, _ => simp at h; omega

/-- THE NAMED VARIABLE READS AGAIN: behind a call that has turned nothing old. -/
theorem vars_again {H : Type} {enc : TypeId × Value → H} {W W' : World} {gs : List (DataW H)} {q : List MemPlace} (h : DataW.TrodVars enc Tryf.prog W (fun _ => true) [vname] gs q) (bel : Below W.heap.size W W') :
    DataW.TrodVars enc Tryf.prog W' (fun b => decide (b < W.heap.size)) [vname] gs q := by
  have hlt := h.lt
  obtain ⟨g, t, cs, fuel, d, p, rfl, hg, ht, hv, hd, rfl⟩ := trodVars_one h
  obtain rfl := Option.some.inj (gE.symm.trans hg)
  obtain rfl := Option.some.inj (gEType.symm.trans ht)
  have ht' : DataW.Trod enc Tryf.prog W 0 (fun _ => true) true 27 (.agg cs) d p := ⟨fuel, hd⟩
  obtain ⟨fuel', hd'⟩ := Below.trod laidOut' (by kernel_rfl) (of_decide_eq_true (by kernel_rfl)) ht' bel (fun x hx => hlt x (List.mem_append_right _ hx))
  have l0 : 0 < W.heap.size := by
    obtain ⟨l⟩ := cs
    cases l with
    | nil =>
      obtain ⟨y0, y1, y2, n, _, hl, _⟩ := Deep.trod_struct3 Tryf.underlying27 hd
      rw [cells27] at hl
      simp at hl
    | cons c l =>
      have hc : W.cell? ⟨0, 0, none⟩ = some c := by simpa using World.var?_cell gE hv 0
      exact World.block_lt_of_cell? _ _ hc
  exact trodVars_mk1 gE gEType (var?_below bel gE l0 hv) hd'
end Go.Proofs.Qxb6612963aFmt
