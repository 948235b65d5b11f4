/-
  DERIVED. What both proofs of this seat open and shut: the closed facts, the listed sentinel, a slice of integers. By an AI agent.
-/
import Derived.Test.Qxb6612865aFmtScript
import Derived.Test.Qxb6612865aFmtTie
import Derived.Test.Qxb6612865aFmtCards
import Derived.ProofKit
import Derived.Stop.JoinedAt
import Derived.Stop.JoinedTold
import Derived.Stop.Texts
import Derived.Stop.ErrReads
import Derived.Stop.LaidErr
import Derived.SevenTiedAt
import Derived.WalkSmall
namespace Go.Proofs.Qxb6612865aFmt
open Go.ChangeShapes Go.WideShapes Go.ChangeAt Go.RowKit Go.Kit
open Go.Extern.Stop Go.Stop Go.Extern

theorem own : ownKnob Tryf.prog.godebug = none := by kernel_rfl
theorem laidOut : laidOutB Tryf.pinned.checked.prog = true := by kernel_rfl
theorem laidOut' : laidOutB Tryf.prog = true := by kernel_rfl
theorem stops : Tryf.pinned.checked.prog.stops = Rows.fnTakeScriptMatchesCursorRow.stops := by kernel_rfl
theorem stopKnobs : Tryf.pinned.checked.prog.stopKnobs = [] := by kernel_rfl
theorem quiet (os : Os) : Stop.quiet Tryf.pinned.checked.prog os := by
  intro k hk
  rw [stopKnobs] at hk
  cases hk

/-- the listed variable's name -/
abbrev vname : String := Rows.fnTakeScriptMatchesCursorRow.named.headD ""
theorem gE : Tryf.prog.globalNamed vname = some 0 := by kernel_rfl
theorem gEType : (Tryf.prog.globals[0]?).map (·.type) = some 31 := by kernel_rfl
theorem cells55 : Tryf.prog.cellsOf 55 = 1 := by kernel_rfl
theorem cells9 : Tryf.prog.cellsOf 9 = 1 := by kernel_rfl
theorem cells31 : Tryf.prog.cellsOf 31 = 1 := by kernel_rfl
theorem cells5 : Tryf.prog.cellsOf 5 = 1 := by kernel_rfl
theorem cells3 : Tryf.prog.cellsOf 3 = 1 := by kernel_rfl
theorem row53 (u : TypeId) (h : Tryf.prog.typeName? 3 u = some nm53) : u = 53 :=
  typeName_ptr_named (nm := "errors.errorString") (by rw [show (_ : String) ++ "errors.errorString" = nm53 from by decide]; kernel_rfl) (by kernel_rfl) (by decide) u (h.trans (congrArg some (by decide)))

abbrev errS : ByteArray := { data := #[99, 105, 114, 99, 108, 101, 116, 58, 32, 109, 97, 108, 102, 111, 114, 109, 101, 100, 32, 109, 101, 115, 115, 97, 103, 101] }

/-- a slice of integers that came in, opened -/
theorem open_row {H : Type} {enc : TypeId × Value → H} {W : World} {t e : TypeId} {k : IntKind} {a : Option Addr} {len cap : Nat} {d : DataW H} {p : List MemPlace}
    (ht : Tryf.prog.underlying t = some (.slice e)) (he : Tryf.prog.underlying e = some (.int k)) (hc : Tryf.prog.cellsOf e = 1) (h : DataW.Trod enc Tryf.prog W 0 (fun _ => true) true t (.slice a len cap) d p) :
    ∃ zs, IsRow k W a len cap zs := by
  obtain ⟨fuel, hf⟩ := h
  rcases open_ints ht he hc hf with ⟨hcs, _⟩ | ⟨x, l, c, zs, hcs, _, hl, hm, hz, _, hcell, hwz⟩
  · simp [Value.cells] at hcs
    obtain ⟨rfl, rfl, rfl⟩ := hcs
    exact ⟨[], .inl ⟨rfl, rfl, rfl, rfl⟩⟩
  · simp [Value.cells] at hcs
    obtain ⟨rfl, rfl, rfl⟩ := hcs
    exact ⟨zs, .inr ⟨_, rfl, hl, hm, by simpa using hz, hcell, hwz⟩⟩

theorem IsRow.max {k : IntKind} {w : World} {a : Option Addr} {len cap : Nat} {zs : List Int} (h : IsRow k w a len cap zs) : len ≤ maxLen ∧ (a = none → len = 0 ∧ cap = 0) := by
  rcases h with ⟨rfl, rfl, rfl, rfl⟩ | ⟨x, rfl, hl, hm, _, _, _⟩
  · exact ⟨Nat.zero_le _, fun _ => ⟨rfl, rfl⟩⟩
  · exact ⟨Nat.le_trans hl hm, fun h => by cases h⟩

theorem IsRow.spot {k : IntKind} {w : World} {a : Option Addr} {len cap : Nat} {zs : List Int} (h : IsRow k w a len cap zs) :
    len ≠ 0 → ∃ b off, a = some ⟨b, off, none⟩ ∧ ∀ i, i < len → w.cell? ⟨b, off + i, none⟩ = some (.int k (zs.getD i 0)) := by
  intro hn
  rcases h with ⟨rfl, rfl, rfl, rfl⟩ | ⟨x, rfl, hl, hm, hz, hcell, hwz⟩
  · exact absurd rfl hn
  · obtain ⟨b, off, spot⟩ := x
    have hs : spot = none := by simpa [Addr.add] using World.cell?_spot (hcell 0 (by omega))
    subst hs
    refine ⟨b, off, rfl, fun i hi => ?_⟩
    have := hcell i (by omega)
    rw [add_at] at this
    exact this
end Go.Proofs.Qxb6612865aFmt
