/-
  DERIVED. FnTakeScriptMatchesCursor: the told and tied card. By an AI agent.
-/
import Derived.Test.Qxb6612865aFmtScriptWalk
import Derived.Test.Qxb6612865aFmtOpen
namespace Go.Proofs.Qxb6612865aFmt
open Go.ChangeShapes Go.WideShapes Go.ChangeAt Go.RowKit Go.Kit
open Go.Extern.Stop Go.Stop Go.Extern
namespace ScriptProof

theorem walk (F : Interp) (a : Addr) (s : ByteArray) (a0 a1 : Option Addr) (n0 c0 n1 c1 : Nat) (xs zs : List Int) (w : World) (hF : F.answers w.tape)
    (hg : w.cell? ⟨0, 0, none⟩ = some (.iface 53 (.pointer (some a)))) (hs : w.cell? a = some (.string s)) (hx : IsRow .u8 w a0 n0 c0 xs) (hz : IsRow .i64 w a1 n1 c1 zs) :
    Calls Tryf.prog 3 #[.slice a0 n0 c0, .slice a1 n1 c1] w fun e w' => e = .returned (.bool true) ∧ Below w.heap.size w w' := by
  by_cases h : 1048576 < n0 ∨ 65536 < n1 ∨ 1048576 < n0 + 8 * n1
  · refine (script_early a0 a1 n0 c0 n1 c1 w hx.max.1 hz.max.1 h).mono fun e w' ⟨he, hw⟩ => ⟨he, ?_⟩
    subst hw
    exact Below.refl _ _
  · obtain ⟨hB, hl, hlc⟩ := hx.bts
    exact script_main F a s a0 a1 n0 c0 n1 c1 (xs.take n0) zs w hF hg hs hB hl hlc hx.max.2 hz.spot (by omega) (by omega) (by omega)

set_option maxRecDepth 100000 in
set_option maxHeartbeats 1600000 in
theorem lifted (os : Os) (started : os.Started) (H : Type) (enc : TypeId × Value → H) :
    ReturnsInTold none {} Tryf.checked os 3 .any Input.okWide ((OpenSpec.ofChange Rows.fnTakeScriptMatchesCursorSpec).preRow enc Tryf.prog Tryf.f3 [] false Rows.fnTakeScriptMatchesCursorRow.laid) (fun F => ((OpenSpec.ofChange Rows.fnTakeScriptMatchesCursorSpec).at F).post enc Tryf.prog Tryf.f3 false true false false) (aloneAtReturn Tryf.prog) nothingAlways := by
  refine returnsInTold_of_row (C := Tryf.checked) (s := OpenSpec.ofChange Rows.fnTakeScriptMatchesCursorSpec) (by kernel_rfl) own started (by kernel_rfl) Tryf.func3
    (OpenSpec.witness_stopped_at (enc := enc) (C := Tryf.checked) false
      { World.holding Tryf.prog os ⟨#[.cells #[.string errS] 55], #[], []⟩ with heap := (World.holding Tryf.prog os ⟨#[.cells #[.string errS] 55], #[], []⟩).heap.modify 0 fun
          | .cells _ t frozen => .cells #[.iface 53 (.pointer (some ⟨(World.holding Tryf.prog default ⟨#[], #[], []⟩).heap.size, 0, none⟩))] t frozen
          | o => o }
      #[.slice none 0 0, .slice none 0 0] rfl (by kernel_rfl) (by kernel_rfl) (by kernel_rfl)
      (OpenSpec.preRow_of_B rfl 8 (by kernel_rfl) (by kernel_rfl) (laidMet_of_run (ps := [.cell 0 0, .cell (World.holding Tryf.prog default ⟨#[], #[], []⟩).heap.size 0]) 8 (by kernel_rfl) (by kernel_rfl) (by kernel_rfl)))) ?_
  intro F W base args ds gs before _ hF hval0 hW _ _ _ hL _
  have hval : ∀ (j : Nat) t v, Tryf.f3.params[j]? = some t → args[j]? = some v → Value.okWide Tryf.prog W .any base t v := hval0
  have hW' := hW
  obtain ⟨p, q, hA0, hV0, rfl, hfz, hnd⟩ := hW
  have hA : DataW.TrodAll enc Tryf.prog W 0 (fun _ => true) true Tryf.f3.params.toList args.toList ds p := hA0
  have hV : DataW.TrodVars enc Tryf.prog W (fun _ => true) [vname] gs q := hV0
  rw [Tryf.params3] at hA hval
  obtain ⟨v0, v1, d0, d1, p0, p1, rfl, rfl, rfl, h0, h1⟩ := trodAll_two hA
  obtain ⟨a0, n0, c0, rfl⟩ := okWide_slice Tryf.underlying22 (hval 0 22 v0 rfl rfl)
  obtain ⟨a1, n1, c1, rfl⟩ := okWide_slice Tryf.underlying23 (hval 1 23 v1 rfl rfl)
  obtain ⟨xs, hx⟩ := open_row Tryf.underlying22 Tryf.underlying5 cells5 h0
  obtain ⟨zs, hz⟩ := open_row Tryf.underlying23 Tryf.underlying3 cells3 h1
  have lt0 : ∀ x ∈ p0, x.block < W.heap.size := by obtain ⟨m, hm⟩ := h0; exact DataW.trod_lt m _ _ _ hm
  have lt1 : ∀ x ∈ p1, x.block < W.heap.size := by obtain ⟨m, hm⟩ := h1; exact DataW.trod_lt m _ _ _ hm
  obtain ⟨ae, se, hve, hce, hse, hze⟩ := laid_sentinel hL gE gEType Tryf.underlying31 row53 Tryf.underlying53 Tryf.underlying55 rfl rfl Tryf.underlying9 cells55 cells9
  obtain ⟨rfl, rfl⟩ := hV.unique (vars_read1 enc gE gEType Tryf.underlying31 hve trivial _)
  clear hA0 hV0 hval0
  have hg : W.cell? ⟨0, 0, none⟩ = some (.iface 53 (.pointer (some ae))) := by simpa using World.var?_cell gE hve 0
  refine (walk F.told ae se a0 a1 n0 c0 n1 c1 xs zs W hF hg hce hx hz).mono fun e W' ⟨he, bel⟩ => ?_
  subst he
  exact ⟨_, rfl, _, _, _, [], _, [.cell 0 0], hW', trodAll_mk1 (shut_bool Tryf.underlying4 _), trodAll_mk2 (Below.trod laidOut' (by kernel_rfl) (of_decide_eq_true (by kernel_rfl)) h0 bel lt0) (Below.trod laidOut' (by kernel_rfl) (of_decide_eq_true (by kernel_rfl)) h1 bel lt1), vars_read1 enc gE gEType Tryf.underlying31 (var?_below bel gE (World.block_lt_of_cell? _ _ hg) hve) trivial _, bel.frame _, fun h => by cases h⟩

theorem proved : Rows.FnTakeScriptMatchesCursorToldSaid :=
  Claim7.holds_of_told_tied_any_at .later 3 Tryf.f3 "fmt.errorf" [] [] _ _ _ _ _ (by kernel_rfl) rfl rfl rfl laidOut (by kernel_rfl) rfl ⟨rfl, rfl, rfl, rfl, rfl, rfl, rfl⟩ rfl rfl (by kernel_rfl) (by kernel_rfl) Tryf.func3 (by kernel_rfl)
    (of_decide_eq_true (by kernel_rfl)) (of_decide_eq_true (by kernel_rfl)) stops.symm rfl stopKnobs.symm (by kernel_rfl)
    (by kernel_rfl) (by kernel_rfl) (by kernel_rfl) (by kernel_rfl) (by kernel_rfl) (by kernel_rfl) (by kernel_rfl) (by kernel_rfl) (by kernel_rfl) rfl (by kernel_rfl) rfl rfl
    rfl rfl
    rfl (by kernel_rfl) (by kernel_rfl) (by kernel_rfl) (by decide) (by kernel_rfl) fnTakeScriptMatchesCursor_row_tie
    (OpenClaim.moreEntering_of (by kernel_rfl) (by kernel_rfl) (by kernel_rfl) (by kernel_rfl) (by kernel_rfl) (by kernel_rfl) (by kernel_rfl) (by kernel_rfl) (by kernel_rfl) (by kernel_rfl))
    ⟨_, WideRow.started_initial, quiet _⟩
    (fun os started _ H enc _ => lifted os started H enc)
end ScriptProof

/-- THE STATEMENT. -/
theorem fnTakeScriptMatchesCursorToldProved : Rows.FnTakeScriptMatchesCursorToldSaid := ScriptProof.proved
end Go.Proofs.Qxb6612865aFmt
