/-
  DERIVED. strconv.Itoa's contract of the shelf at this dump, in plain words (cut out of what the kit's lay-shelf.mjs and lay-plain.mjs wrote for this program). By an AI agent.
-/
import Derived.Shelf.LaysM
import Derived.Shelf.Strconv.Itoa3
import Derived.Test.Qxb6612974aDoorRows
namespace Go.Proofs.Qxb6612974aDoor
open Go.Shelf

/-- the name of the library's table of powers of ten, as the given row lists it -/
abbrev vtab : String := Rows.fnIndexSplitsAtAnyCutRow.named.headD ""

def laysM171_ren : Go.Shelf.Ren := ⟨fun | 171 => 11 | 243 => 12 | 246 => 13 | 283 => 14 | 284 => 15 | 285 => 16 | 286 => 17 | 129 => 19 | 317 => 18 | 318 => 20 | 319 => 21 | 320 => 22 | 337 => 23 | 338 => 24 | n => n, fun | 3 => 3 | 9 => 9 | 2 => 2 | 4 => 4 | 171 => 30 | 0 => 0 | 53 => 28 | 37 => 33 | 5 => 5 | 173 => 34 | 212 => 38 | 51 => 39 | 20 => 20 | 213 => 40 | 46 => 42 | 232 => 45 | 233 => 46 | n => n, fun | 17 => 0 | 18 => 1 | 19 => 2 | n => n⟩
theorem laysM171 : Go.Proofs.LaysM.n171 Tryd.prog laysM171_ren := {
  mixed := by kernel_rfl
  f129 := Tryd.func19.trans (congrArg some (by kernel_rfl))
  f171 := Tryd.func11.trans (congrArg some (by kernel_rfl))
  f243 := Tryd.func12.trans (congrArg some (by kernel_rfl))
  f246 := Tryd.func13.trans (congrArg some (by kernel_rfl))
  f283 := Tryd.func14.trans (congrArg some (by kernel_rfl))
  f284 := Tryd.func15.trans (congrArg some (by kernel_rfl))
  f285 := Tryd.func16.trans (congrArg some (by kernel_rfl))
  f286 := Tryd.func17.trans (congrArg some (by kernel_rfl))
  f317 := Tryd.func18.trans (congrArg some (by kernel_rfl))
  f318 := Tryd.func20.trans (congrArg some (by kernel_rfl))
  f319 := Tryd.func21.trans (congrArg some (by kernel_rfl))
  f320 := Tryd.func22.trans (congrArg some (by kernel_rfl))
  f337 := Tryd.func23.trans (congrArg some (by kernel_rfl))
  f338 := Tryd.func24.trans (congrArg some (by kernel_rfl))
  t0 := Tryd.underlying0
  a0 := Tryd.isAgg0
  z0 := Tryd.sizeOf0
  v0 := Tryd.zeroValue0
  t2 := Tryd.underlying2
  a2 := Tryd.isAgg2
  z2 := Tryd.sizeOf2
  v2 := Tryd.zeroValue2
  t3 := Tryd.underlying3
  a3 := Tryd.isAgg3
  z3 := Tryd.sizeOf3
  v3 := Tryd.zeroValue3
  t4 := Tryd.underlying4
  a4 := Tryd.isAgg4
  z4 := Tryd.sizeOf4
  v4 := Tryd.zeroValue4
  t5 := Tryd.underlying5
  a5 := Tryd.isAgg5
  z5 := Tryd.sizeOf5
  v5 := Tryd.zeroValue5
  t9 := Tryd.underlying9
  a9 := Tryd.isAgg9
  z9 := Tryd.sizeOf9
  v9 := Tryd.zeroValue9
  t20 := Tryd.underlying20
  a20 := Tryd.isAgg20
  z20 := Tryd.sizeOf20
  v20 := Tryd.zeroValue20
  t37 := Tryd.underlying33
  a37 := Tryd.isAgg33
  z37 := Tryd.sizeOf33
  v37 := Tryd.zeroValue33
  t46 := Tryd.underlying42
  a46 := Tryd.isAgg42
  z46 := Tryd.sizeOf42
  v46 := Tryd.zeroValue42
  t51 := Tryd.underlying39
  a51 := Tryd.isAgg39
  z51 := Tryd.sizeOf39
  v51 := Tryd.zeroValue39
  t53 := Tryd.underlying28
  a53 := Tryd.isAgg28
  z53 := Tryd.sizeOf28
  v53 := Tryd.zeroValue28
  t171 := Tryd.underlying30
  a171 := Tryd.isAgg30
  z171 := Tryd.sizeOf30
  v171 := Tryd.zeroValue30
  t173 := Tryd.underlying34
  a173 := Tryd.isAgg34
  z173 := Tryd.sizeOf34
  v173 := Tryd.zeroValue34
  t212 := Tryd.underlying38
  a212 := Tryd.isAgg38
  z212 := Tryd.sizeOf38
  v212 := Tryd.zeroValue38
  t213 := Tryd.underlying40
  a213 := Tryd.isAgg40
  z213 := Tryd.sizeOf40
  t232 := Tryd.underlying45
  a232 := Tryd.isAgg45
  z232 := Tryd.sizeOf45
  v232 := Tryd.zeroValue45
  t233 := Tryd.underlying46
  a233 := Tryd.isAgg46
  z233 := Tryd.sizeOf46
  v233 := Tryd.zeroValue46
  g17 := by kernel_rfl
  g18 := by kernel_rfl
  g19 := by kernel_rfl
  i0 := by kernel_rfl
  i2 := by kernel_rfl
  i3 := by kernel_rfl
  i4 := by kernel_rfl
  i5 := by kernel_rfl
  i9 := by kernel_rfl
  i20 := by kernel_rfl
  i37 := by kernel_rfl
  i46 := by kernel_rfl
  i51 := by kernel_rfl
  i53 := by kernel_rfl
  i171 := by kernel_rfl
  i173 := by kernel_rfl
  i212 := by kernel_rfl
  i232 := by kernel_rfl
  i233 := by kernel_rfl
  m17 := by kernel_rfl
  m18 := by kernel_rfl
  m19 := by kernel_rfl }
open Go.RowKit Go.Sort Go.Lib in
/-- strconv.Itoa: "Itoa is equivalent to FormatInt(int64(i), 10).": i's DECIMAL NUMERAL ('Lib.itoa': a '-' where i is negative, then the digits), FOR EVERY int. The world behind the call: the world before it, new blocks behind the heap (the library's 'var a [24]byte'), draws. (LAID: no walk: one application.) -/
theorem strconv_Itoa (n : Int) (h0 : -9223372036854775808 ≤ n) (h1 : n ≤ 9223372036854775807) (w : World) (htab : Lib.TabIs Tryd.prog w vtab .u64 Lib.pow10Tab) :
    Calls Tryd.prog 11 #[.int .i64 n] w fun e w' => e = .returned (.string ⟨(Lib.itoa n).toArray⟩) ∧ ∃ k os, w' = grow (w.drewN k) os := Any.strconv_Itoa laysM171 n h0 h1 w htab
end Go.Proofs.Qxb6612974aDoor
