/-
  DERIVED. FnIndexSplitsAtAnyCut: the tied card. By an AI agent.
-/
import Derived.Test.Qxb6612974aDoorOpen
namespace Go.Proofs.Qxb6612974aDoor
open Go.ChangeShapes Go.WideShapes Go.ChangeAt Go.RowKit
open Go.ChangeMaps (open_string shut_string)
namespace CutProof

set_option maxRecDepth 100000 in
theorem lifted (os : Os) (started : os.Started) (H : Type) (enc : TypeId × Value → H) :
    ReturnsInHanded {} Tryd.checked os 3 .any (fun w args => (Rows.fnIndexSplitsAtAnyCutSpec.pre enc Tryd.prog Tryd.f3 [] false w args ∧ laidMetH Tryd.prog Rows.fnIndexSplitsAtAnyCutRow.laid w) ∧ sizedMet enc Tryd.prog Tryd.f3 (OpenSpec.ofChange Rows.fnIndexSplitsAtAnyCutSpec) false w args)
      (Rows.fnIndexSplitsAtAnyCutSpec.post enc Tryd.prog Tryd.f3 false true false false) := by
  refine returnsInHanded_of_change_and (C := Tryd.checked) (X := fun w _ => laidMetH Tryd.prog Rows.fnIndexSplitsAtAnyCutRow.laid w) (fun _ _ _ hh h => h.of_heap hh) own started (by kernel_rfl) Tryd.func3
    (ChangeSpec.witness_shaped (enc := enc) (C := Tryd.checked) (os := os) (X := fun w _ => laidMetH Tryd.prog Rows.fnIndexSplitsAtAnyCutRow.laid w) false (World.doorLaid Tryd.prog 400 os) #[.string ⟨#[]⟩, .int .i64 0, .int .i64 0] 8 rfl (World.shaped_of_RefB (by kernel_rfl) (by kernel_rfl)) (by kernel_rfl) (by kernel_rfl) (by kernel_rfl) (door_met os _)) ?_
  intro W base args ds gs before hval0 hW _ _ hL _
  have hval : ∀ (j : Nat) t v, Tryd.f3.params[j]? = some t → args[j]? = some v → Value.okWide Tryd.prog W .any base t v := hval0
  have hW' := hW
  obtain ⟨p, q, hA0, hV, rfl, hfz, hnd⟩ := hW
  have hA : DataW.TrodAll enc Tryd.prog W 0 (fun _ => true) true Tryd.f3.params.toList args.toList ds p := hA0
  rw [Tryd.params3] at hA hval
  obtain ⟨v0, v1, v2, d0, d1, d2, p0, p1, p2, rfl, rfl, rfl, h0, h1, h2⟩ := trodAll_three hA
  obtain ⟨s, rfl, rfl, rfl, ws⟩ := open_string Tryd.underlying9 (hval 0 9 v0 rfl rfl) h0
  obtain ⟨k, rfl, rfl, rfl, wk⟩ := open_int Tryd.underlying3 (hval 1 3 v1 rfl rfl) h1
  obtain ⟨i, rfl, rfl, rfl, wi⟩ := open_int Tryd.underlying3 (hval 2 3 v2 rfl rfl) h2
  obtain ⟨rfl, rfl⟩ := trodVars_none hV
  clear hA0 hval0
  refine (cut_walk s k i (bounds wi).1 (bounds wi).2 ws W (tab_of_laid hL)).mono fun e W' ⟨he, bel⟩ => ?_
  subst he
  exact ⟨_, rfl, _, _, _, [], _, [], hW', trodAll_mk1 (shut_bool Tryd.underlying4 _), trodAll_mk3 (shut_string Tryd.underlying9 ws) (shut_int Tryd.underlying3 wk) (shut_int Tryd.underlying3 wi), rfl, bel.frame _, fun h => by cases h⟩

theorem over : Rows.fnIndexSplitsAtAnyCutRow.holds Tryd.pinned (OpenSpec.ofChange Rows.fnIndexSplitsAtAnyCutSpec) :=
  OpenClaim.holds_of_wide 3 Tryd.f3 rfl rfl rfl rfl rfl rfl rfl ⟨rfl, rfl, rfl, rfl, rfl⟩ rfl rfl rfl rfl rfl (by kernel_rfl) Tryd.func3 (by kernel_rfl)
    (of_decide_eq_true (by kernel_rfl)) (by unfold Func.isWrapper; first | (rw [if_pos (by decide +kernel)]; kernel_rfl) | (rw [if_neg (by decide +kernel)]; exact ⟨rfl, rfl⟩))
    (fun os started H enc _ => lifted os started H enc)

theorem card : Rows.FnIndexSplitsAtAnyCutCardSaid :=
  Claim7.holds_tied_plain_at .later [] [.data, .data, .data] true _ false
    over (fun _ h => by cases h) (by kernel_rfl) (fun _ h => by cases h) fnIndexSplitsAtAnyCut_row_tie rfl ⟨rfl, rfl⟩ (by kernel_rfl) rfl
    (fun f fn hf hfn => by
      obtain rfl : f = 3 := Option.some.inj ((show Tryd.prog.funcNamed Rows.fnIndexSplitsAtAnyCutRow.func = some 3 by kernel_rfl).symm.trans hf) |>.symm
      obtain rfl : fn = Tryd.f3 := (Option.some.inj (Tryd.func3.symm.trans hfn)).symm
      exact ⟨by kernel_rfl, fun j t ht => by
        rw [Tryd.params3] at ht
        have hm : t ∈ [9, 3, 3] := by simpa using Array.mem_of_getElem? ht
        have hall : ([9, 3, 3].all fun u => !Tryd.prog.wantsStandIn u) = true := by kernel_rfl
        exact (show Tryd.prog.wantsStandIn t = false by simpa using List.all_eq_true.1 hall t hm)⟩)
    (by kernel_rfl)
end CutProof

/-- THE STATEMENT. -/
theorem fnIndexSplitsAtAnyCutCardProved : Rows.FnIndexSplitsAtAnyCutCardSaid := CutProof.card
end Go.Proofs.Qxb6612974aDoor
