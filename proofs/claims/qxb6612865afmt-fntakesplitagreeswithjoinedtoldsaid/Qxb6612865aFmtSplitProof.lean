/-
  DERIVED. FnTakeSplitAgreesWithJoined: the told and tied card. By an AI agent.
-/
import Derived.Test.Qxb6612865aFmtSplitShort
import Derived.Test.Qxb6612865aFmtOpen
namespace Go.Proofs.Qxb6612865aFmt
open Go.ChangeShapes Go.WideShapes Go.ChangeAt Go.RowKit Go.Kit
open Go.Extern.Stop Go.Stop Go.Extern
namespace SplitProof

theorem walk (F : Interp) (ae : Addr) (se : ByteArray) (a0 : Option Addr) (n0 c0 : Nat) (a b : Int) (xs : List Int) (w : World) (hF : F.answers w.tape)
    (hg : w.cell? ⟨0, 0, none⟩ = some (.iface 53 (.pointer (some ae)))) (hs : w.cell? ae = some (.string se)) (hx : IsRow .u8 w a0 n0 c0 xs) (wa : (Lit.int .i64 a).wf = true) (wb : (Lit.int .i64 b).wf = true) :
    Calls Tryf.prog 4 #[.slice a0 n0 c0, .int .i64 a, .int .i64 b] w fun e w' => e = .returned (.bool true) ∧ Below w.heap.size w w' := by
  have ba : -9223372036854775808 ≤ a ∧ a ≤ 9223372036854775807 := by
    simp [Lit.wf, IntKind.min, IntKind.max, IntKind.signed, IntKind.bits] at wa
    omega
  have bb : -9223372036854775808 ≤ b ∧ b ≤ 9223372036854775807 := by
    simp [Lit.wf, IntKind.min, IntKind.max, IntKind.signed, IntKind.bits] at wb
    omega
  by_cases h : 1048576 < n0 ∨ a < 0 ∨ b < 0 ∨ 9223372036854775807 < a + b
  · refine (split_early a0 n0 c0 a b w hx.max.1 ba bb.2 h).mono fun e w' ⟨he, hw⟩ => ⟨he, ?_⟩
    subst hw
    exact Below.refl _ _
  · obtain ⟨hB, hl, hlc⟩ := hx.bts
    obtain ⟨m, rfl⟩ := Int.eq_ofNat_of_zero_le (show 0 ≤ a from by omega)
    obtain ⟨n, rfl⟩ := Int.eq_ofNat_of_zero_le (show 0 ≤ b from by omega)
    by_cases h1 : m + n ≤ n0
    · exact split_fit a0 n0 c0 m n (xs.take n0) w hB hl hlc hx.max.2 (by omega) h1
    · by_cases h2 : m ≤ n0
      · exact split_mid F ae se a0 n0 c0 m n (xs.take n0) w hF hg hs hB hl hlc hx.max.2 (by omega) (by omega) (by omega) h2
      · exact split_over F ae se a0 n0 c0 m n (xs.take n0) w hF hg hs hB hl hlc hx.max.2 (by omega) (by omega) (by omega) (by omega)

set_option maxRecDepth 100000 in
set_option maxHeartbeats 1600000 in
theorem lifted (os : Os) (started : os.Started) (H : Type) (enc : TypeId × Value → H) :
    ReturnsInTold none {} Tryf.checked os 4 .any Input.okWide ((OpenSpec.ofChange Rows.fnTakeSplitAgreesWithJoinedSpec).preRow enc Tryf.prog Tryf.f4 [] false Rows.fnTakeSplitAgreesWithJoinedRow.laid) (fun F => ((OpenSpec.ofChange Rows.fnTakeSplitAgreesWithJoinedSpec).at F).post enc Tryf.prog Tryf.f4 false true false false) (aloneAtReturn Tryf.prog) nothingAlways := by
  refine returnsInTold_of_row (C := Tryf.checked) (s := OpenSpec.ofChange Rows.fnTakeSplitAgreesWithJoinedSpec) (by kernel_rfl) own started (by kernel_rfl) Tryf.func4
    (OpenSpec.witness_stopped_at (enc := enc) (C := Tryf.checked) false
      { World.holding Tryf.prog os ⟨#[.cells #[.string errS] 55], #[], []⟩ with heap := (World.holding Tryf.prog os ⟨#[.cells #[.string errS] 55], #[], []⟩).heap.modify 0 fun
          | .cells _ t frozen => .cells #[.iface 53 (.pointer (some ⟨(World.holding Tryf.prog default ⟨#[], #[], []⟩).heap.size, 0, none⟩))] t frozen
          | o => o }
      #[.slice none 0 0, .int .i64 0, .int .i64 0] rfl (by kernel_rfl) (by kernel_rfl) (by kernel_rfl)
      (OpenSpec.preRow_of_B rfl 8 (by kernel_rfl) (by kernel_rfl) (laidMet_of_run (ps := [.cell 0 0, .cell (World.holding Tryf.prog default ⟨#[], #[], []⟩).heap.size 0]) 8 (by kernel_rfl) (by kernel_rfl) (by kernel_rfl)))) ?_
  intro F W base args ds gs before _ hF hval0 hW _ _ _ hL _
  have hval : ∀ (j : Nat) t v, Tryf.f4.params[j]? = some t → args[j]? = some v → Value.okWide Tryf.prog W .any base t v := hval0
  have hW' := hW
  obtain ⟨p, q, hA0, hV0, rfl, hfz, hnd⟩ := hW
  have hA : DataW.TrodAll enc Tryf.prog W 0 (fun _ => true) true Tryf.f4.params.toList args.toList ds p := hA0
  have hV : DataW.TrodVars enc Tryf.prog W (fun _ => true) [vname] gs q := hV0
  rw [Tryf.params4] at hA hval
  obtain ⟨v0, v1, v2, d0, d1, d2, p0, p1, p2, rfl, rfl, rfl, h0, h1, h2⟩ := trodAll_three hA
  obtain ⟨a0, n0, c0, rfl⟩ := okWide_slice Tryf.underlying22 (hval 0 22 v0 rfl rfl)
  obtain ⟨a, rfl, rfl, rfl, wa⟩ := open_int Tryf.underlying3 (hval 1 3 v1 rfl rfl) h1
  obtain ⟨b, rfl, rfl, rfl, wb⟩ := open_int Tryf.underlying3 (hval 2 3 v2 rfl rfl) h2
  obtain ⟨xs, hx⟩ := open_row Tryf.underlying22 Tryf.underlying5 cells5 h0
  have lt0 : ∀ x ∈ p0, x.block < W.heap.size := by obtain ⟨m, hm⟩ := h0; exact DataW.trod_lt m _ _ _ hm
  obtain ⟨ae, se, hve, hce, hse, hze⟩ := laid_sentinel hL gE gEType Tryf.underlying31 row53 Tryf.underlying53 Tryf.underlying55 rfl rfl Tryf.underlying9 cells55 cells9
  obtain ⟨rfl, rfl⟩ := hV.unique (vars_read1 enc gE gEType Tryf.underlying31 hve trivial _)
  clear hA0 hV0 hval0
  have hg : W.cell? ⟨0, 0, none⟩ = some (.iface 53 (.pointer (some ae))) := by simpa using World.var?_cell gE hve 0
  refine (walk F.told ae se a0 n0 c0 a b xs W hF hg hce hx wa wb).mono fun e W' ⟨he, bel⟩ => ?_
  subst he
  exact ⟨_, rfl, _, _, _, [], _, [.cell 0 0], hW', trodAll_mk1 (shut_bool Tryf.underlying4 _), trodAll_mk3 (Below.trod laidOut' (by kernel_rfl) (of_decide_eq_true (by kernel_rfl)) h0 bel lt0) (shut_int Tryf.underlying3 wa) (shut_int Tryf.underlying3 wb), vars_read1 enc gE gEType Tryf.underlying31 (var?_below bel gE (World.block_lt_of_cell? _ _ hg) hve) trivial _, bel.frame _, fun h => by cases h⟩

theorem proved : Rows.FnTakeSplitAgreesWithJoinedToldSaid :=
  Claim7.holds_of_told_tied_any_at .later 4 Tryf.f4 "fmt.errorf" [] [] _ _ _ _ _ (by kernel_rfl) rfl rfl rfl laidOut (by kernel_rfl) rfl ⟨rfl, rfl, rfl, rfl, rfl, rfl, rfl⟩ rfl rfl (by kernel_rfl) (by kernel_rfl) Tryf.func4 (by kernel_rfl)
    (of_decide_eq_true (by kernel_rfl)) (of_decide_eq_true (by kernel_rfl)) stops.symm rfl stopKnobs.symm (by kernel_rfl)
    (by kernel_rfl) (by kernel_rfl) (by kernel_rfl) (by kernel_rfl) (by kernel_rfl) (by kernel_rfl) (by kernel_rfl) (by kernel_rfl) (by kernel_rfl) rfl (by kernel_rfl) rfl rfl
    rfl rfl
    rfl (by kernel_rfl) (by kernel_rfl) (by kernel_rfl) (by decide) (by kernel_rfl) fnTakeSplitAgreesWithJoined_row_tie
    (OpenClaim.moreEntering_of (by kernel_rfl) (by kernel_rfl) (by kernel_rfl) (by kernel_rfl) (by kernel_rfl) (by kernel_rfl) (by kernel_rfl) (by kernel_rfl) (by kernel_rfl) (by kernel_rfl))
    ⟨_, WideRow.started_initial, quiet _⟩
    (fun os started _ H enc _ => lifted os started H enc)
end SplitProof

/-- THE STATEMENT. -/
theorem fnTakeSplitAgreesWithJoinedToldProved : Rows.FnTakeSplitAgreesWithJoinedToldSaid := SplitProof.proved
end Go.Proofs.Qxb6612865aFmt
