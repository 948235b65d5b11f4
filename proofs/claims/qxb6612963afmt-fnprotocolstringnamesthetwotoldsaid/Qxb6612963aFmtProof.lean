/-
  DERIVED. FnProtocolStringNamesTheTwo: the told and tied card. By an AI agent.
-/
import Derived.Test.Qxb6612963aFmtOpen
import Derived.Test.Qxb6612963aFmtTie
import Derived.Test.Qxb6612963aFmtCards
import Derived.Stop.JoinedAt
import Derived.Stop.JoinedTold
import Derived.Deep.DeepWitnessRef
import Derived.SevenTiedAt
namespace Go.Proofs.Qxb6612963aFmt
open Go.ChangeShapes Go.WideShapes Go.ChangeAt Go.RowKit Go.Kit
open Go.Extern.Stop Go.Stop Go.Extern
namespace NamesProof

theorem own : ownKnob Tryf.prog.godebug = none := by kernel_rfl
theorem laidOut : laidOutB Tryf.pinned.checked.prog = true := by kernel_rfl
theorem stops : Tryf.pinned.checked.prog.stops = Rows.fnProtocolStringNamesTheTwoRow.stops := by kernel_rfl
theorem stopKnobs : Tryf.pinned.checked.prog.stopKnobs = [] := by kernel_rfl
theorem quiet (os : Os) : Stop.quiet Tryf.pinned.checked.prog os := by
  intro k hk
  rw [stopKnobs] at hk
  cases hk

set_option maxRecDepth 100000 in
set_option maxHeartbeats 1600000 in
theorem lifted (os : Os) (started : os.Started) (H : Type) (enc : TypeId × Value → H) :
    ReturnsInTold none {} Tryf.checked os 3 .any Input.okWide ((OpenSpec.ofChange Rows.fnProtocolStringNamesTheTwoSpec).preRow enc Tryf.prog Tryf.f3 [] false Rows.fnProtocolStringNamesTheTwoRow.laid) (fun F => ((OpenSpec.ofChange Rows.fnProtocolStringNamesTheTwoSpec).at F).post enc Tryf.prog Tryf.f3 false true false false) (aloneAtReturn Tryf.prog) nothingAlways := by
  refine returnsInTold_of_row (C := Tryf.checked) (s := OpenSpec.ofChange Rows.fnProtocolStringNamesTheTwoSpec) (by kernel_rfl) own started (by kernel_rfl) Tryf.func3
    (OpenSpec.witness_stopped_atRef (enc := enc) (C := Tryf.checked) false
      { World.holding Tryf.prog os ⟨#[.cells #[.string ⟨#[110, 97, 116, 105, 118, 101]⟩, .string ⟨#[115, 51]⟩] 9], #[], []⟩ with heap := (World.holding Tryf.prog os ⟨#[.cells #[.string ⟨#[110, 97, 116, 105, 118, 101]⟩, .string ⟨#[115, 51]⟩] 9], #[], []⟩).heap.modify 0 fun
          | .cells _ t frozen => .cells #[.string ⟨#[80, 114, 111, 116, 111, 99, 111, 108]⟩, .string ⟨#[112, 114, 111, 116, 111, 99, 111, 108]⟩, .slice (some ⟨(World.holding Tryf.prog default ⟨#[], #[], []⟩).heap.size, 0, none⟩) 2 2] t frozen
          | o => o }
      #[.int .u8 0, .int .u8 0] rfl (by kernel_rfl) (by kernel_rfl) (by kernel_rfl)
      (OpenSpec.preRow_of_B rfl 8 (by kernel_rfl) (by kernel_rfl) (laidMet_of_run (ps := [.cell 0 0, .cell 0 1, .cell 0 2, .cell (World.holding Tryf.prog default ⟨#[], #[], []⟩).heap.size 0, .cell (World.holding Tryf.prog default ⟨#[], #[], []⟩).heap.size 1]) 8 (by kernel_rfl) (by kernel_rfl) (by kernel_rfl)))) ?_
  intro F W base args ds gs before _ hF hval0 hW _ _ _ hL _
  have hval : ∀ (j : Nat) t v, Tryf.f3.params[j]? = some t → args[j]? = some v → Value.okWide Tryf.prog W .any base t v := hval0
  have hW' := hW
  obtain ⟨p, q, hA0, hV0, rfl, hfz, hnd⟩ := hW
  have hA : DataW.TrodAll enc Tryf.prog W 0 (fun _ => true) true Tryf.f3.params.toList args.toList ds p := hA0
  have hV : DataW.TrodVars enc Tryf.prog W (fun _ => true) [vname] gs q := hV0
  rw [Tryf.params3] at hA hval
  obtain ⟨v0, v1, d0, d1, p0, p1, rfl, rfl, rfl, h0, h1⟩ := trodAll_two hA
  obtain ⟨a, rfl, rfl, rfl, wa⟩ := open_int Tryf.underlying5 (hval 0 5 v0 rfl rfl) h0
  obtain ⟨b, rfl, rfl, rfl, wb⟩ := open_int Tryf.underlying5 (hval 1 5 v1 rfl rfl) h1
  have ba : 0 ≤ a := by
    have := wa
    simp [Lit.wf, IntKind.min, IntKind.max, IntKind.signed, IntKind.bits] at this
    omega
  have bb : 0 ≤ b := by
    have := wb
    simp [Lit.wf, IntKind.min, IntKind.max, IntKind.signed, IntKind.bits] at this
    omega
  obtain ⟨s0, s1, bn, off, c, hN⟩ := names_of_laid hL
  have hg1 : ∃ g, gs = [g] := by
    obtain ⟨g, t, cs, fuel, d, p, rfl, _⟩ := trodVars_one hV
    exact ⟨d, rfl⟩
  obtain ⟨g1, rfl⟩ := hg1
  clear hA0 hV0 hval0
  refine (names_walk a b ba bb W s0 s1 bn off c hN).mono fun e W' ⟨he, bel⟩ => ?_
  subst he
  exact ⟨_, rfl, _, _, _, [], _, _, hW', trodAll_mk1 (shut_bool Tryf.underlying4 _), trodAll_mk2 (shut_int Tryf.underlying5 wa) (shut_int Tryf.underlying5 wb), vars_again hV bel, bel.frame _, fun h => by cases h⟩

theorem proved : Rows.FnProtocolStringNamesTheTwoToldSaid :=
  Claim7.holds_of_told_tied_any_at .later 3 Tryf.f3 (Rows.fnProtocolStringNamesTheTwoRow.stops.headD "") [] [] _ _ _ _ _ (by kernel_rfl) rfl rfl rfl laidOut (by kernel_rfl) rfl ⟨rfl, rfl, rfl, rfl, rfl, rfl, rfl⟩ rfl rfl (by kernel_rfl) (by kernel_rfl) Tryf.func3 (by kernel_rfl)
    (of_decide_eq_true (by kernel_rfl)) (of_decide_eq_true (by kernel_rfl)) stops.symm rfl stopKnobs.symm (by kernel_rfl)
    (by kernel_rfl) (by kernel_rfl) (by kernel_rfl) (by kernel_rfl) (by kernel_rfl) (by kernel_rfl) (by kernel_rfl) (by kernel_rfl) (by kernel_rfl) rfl (by kernel_rfl) rfl rfl
    rfl rfl
    rfl (by kernel_rfl) (by kernel_rfl) (by kernel_rfl) (by decide) (by kernel_rfl) fnProtocolStringNamesTheTwo_row_tie
    (OpenClaim.moreEntering_of (by kernel_rfl) (by kernel_rfl) (by kernel_rfl) (by kernel_rfl) (by kernel_rfl) (by kernel_rfl) (by kernel_rfl) (by kernel_rfl) (by kernel_rfl) (by kernel_rfl))
    ⟨_, WideRow.started_initial, quiet _⟩
    (fun os started _ H enc _ => lifted os started H enc)
end NamesProof

/-- THE STATEMENT. -/
theorem fnProtocolStringNamesTheTwoToldProved : Rows.FnProtocolStringNamesTheTwoToldSaid := NamesProof.proved
end Go.Proofs.Qxb6612963aFmt
