/-
  DERIVED: THE SHELF's CONTRACTS AT THIS DUMP, IN PLAIN WORDS (tools/lay-plain.mjs out of 'YbulkcmzyDoorShelf0.lean', which tools/lay-shelf.mjs wrote): THE SAME DECLARATIONS UNDER THE SAME NAMES: 'import', 'namespace', 'open', 'def', 'theorem' AND NOTHING ELSE: no command of the shelf's: FOR A HAND-IN. Each laying: the table of numbers ('.._ren') and one theorem, a field a fact of the dump's own or the kernel's comparison; each contract: ONE APPLICATION.
-/
import Derived.Shelf.Strconv.AppendIntPublic10
import Derived.Test.YbulkcmzyDoorRows
namespace Go.Proofs
open Go.Shelf
def Ybad.laysM176_ren : Go.Shelf.Ren := ⟨fun | 176 => 16 | 249 => 18 | 288 => 25 | 283 => 33 | 284 => 34 | 285 => 35 | 286 => 36 | 129 => 43 | 317 => 42 | 318 => 44 | 319 => 45 | 320 => 46 | 337 => 50 | 338 => 51 | n => n, fun | 37 => 22 | 2 => 2 | 3 => 3 | 53 => 76 | 4 => 4 | 9 => 9 | 171 => 62 | 0 => 0 | 173 => 88 | 212 => 99 | 51 => 100 | 5 => 5 | 20 => 20 | 213 => 101 | 46 => 103 | 232 => 117 | 233 => 118 | n => n, fun | 17 => 1 | 18 => 5 | 19 => 6 | n => n⟩
theorem Ybad.laysM176 : Go.Proofs.LaysM.n176 Ybad.prog Ybad.laysM176_ren := {
  mixed := by kernel_rfl
  f129 := Ybad.func43.trans (congrArg some (by kernel_rfl))
  f176 := Ybad.func16.trans (congrArg some (by kernel_rfl))
  f249 := Ybad.func18.trans (congrArg some (by kernel_rfl))
  f283 := Ybad.func33.trans (congrArg some (by kernel_rfl))
  f284 := Ybad.func34.trans (congrArg some (by kernel_rfl))
  f285 := Ybad.func35.trans (congrArg some (by kernel_rfl))
  f286 := Ybad.func36.trans (congrArg some (by kernel_rfl))
  f288 := Ybad.func25.trans (congrArg some (by kernel_rfl))
  f317 := Ybad.func42.trans (congrArg some (by kernel_rfl))
  f318 := Ybad.func44.trans (congrArg some (by kernel_rfl))
  f319 := Ybad.func45.trans (congrArg some (by kernel_rfl))
  f320 := Ybad.func46.trans (congrArg some (by kernel_rfl))
  f337 := Ybad.func50.trans (congrArg some (by kernel_rfl))
  f338 := Ybad.func51.trans (congrArg some (by kernel_rfl))
  t0 := Ybad.underlying0
  a0 := Ybad.isAgg0
  z0 := Ybad.sizeOf0
  v0 := Ybad.zeroValue0
  t2 := Ybad.underlying2
  a2 := Ybad.isAgg2
  z2 := Ybad.sizeOf2
  v2 := Ybad.zeroValue2
  t3 := Ybad.underlying3
  a3 := Ybad.isAgg3
  z3 := Ybad.sizeOf3
  v3 := Ybad.zeroValue3
  t4 := Ybad.underlying4
  a4 := Ybad.isAgg4
  z4 := Ybad.sizeOf4
  v4 := Ybad.zeroValue4
  t5 := Ybad.underlying5
  a5 := Ybad.isAgg5
  z5 := Ybad.sizeOf5
  v5 := Ybad.zeroValue5
  t9 := Ybad.underlying9
  a9 := Ybad.isAgg9
  z9 := Ybad.sizeOf9
  v9 := Ybad.zeroValue9
  t20 := Ybad.underlying20
  a20 := Ybad.isAgg20
  z20 := Ybad.sizeOf20
  v20 := Ybad.zeroValue20
  t37 := Ybad.underlying22
  a37 := Ybad.isAgg22
  z37 := Ybad.sizeOf22
  v37 := Ybad.zeroValue22
  t46 := Ybad.underlying103
  a46 := Ybad.isAgg103
  z46 := Ybad.sizeOf103
  v46 := Ybad.zeroValue103
  t51 := Ybad.underlying100
  a51 := Ybad.isAgg100
  z51 := Ybad.sizeOf100
  v51 := Ybad.zeroValue100
  t53 := Ybad.underlying76
  a53 := Ybad.isAgg76
  z53 := Ybad.sizeOf76
  v53 := Ybad.zeroValue76
  t171 := Ybad.underlying62
  a171 := Ybad.isAgg62
  z171 := Ybad.sizeOf62
  v171 := Ybad.zeroValue62
  t173 := Ybad.underlying88
  a173 := Ybad.isAgg88
  z173 := Ybad.sizeOf88
  v173 := Ybad.zeroValue88
  t212 := Ybad.underlying99
  a212 := Ybad.isAgg99
  z212 := Ybad.sizeOf99
  v212 := Ybad.zeroValue99
  t213 := Ybad.underlying101
  a213 := Ybad.isAgg101
  z213 := Ybad.sizeOf101
  t232 := Ybad.underlying117
  a232 := Ybad.isAgg117
  z232 := Ybad.sizeOf117
  v232 := Ybad.zeroValue117
  t233 := Ybad.underlying118
  a233 := Ybad.isAgg118
  z233 := Ybad.sizeOf118
  v233 := Ybad.zeroValue118
  g17 := by kernel_rfl
  g18 := by kernel_rfl
  g19 := by kernel_rfl
  i0 := by kernel_rfl
  i2 := by kernel_rfl
  i3 := by kernel_rfl
  i4 := by kernel_rfl
  i5 := by kernel_rfl
  i9 := by kernel_rfl
  i20 := by kernel_rfl
  i37 := by kernel_rfl
  i46 := by kernel_rfl
  i51 := by kernel_rfl
  i53 := by kernel_rfl
  i171 := by kernel_rfl
  i173 := by kernel_rfl
  i212 := by kernel_rfl
  i232 := by kernel_rfl
  i233 := by kernel_rfl
  m17 := by kernel_rfl
  m18 := by kernel_rfl
  m19 := by kernel_rfl }
/-- The name of the table of powers of ten: the first that the row names. -/
def YbulkcmzyDoor.powName : String := YbulkcmzyDoor.Rows.lawS4444BExactRow.named.headD ""
theorem Ybad.strconv_AppendInt_10 (B n : Nat) (i : Int) (h0 : -9223372036854775808 ≤ i) (h1 : i ≤ 9223372036854775807) (sv : Value) (xs : List Value) (w : World) (hown : w.ownsRow B 5 1 sv n xs) (hBw : B ≤ w.heap.size) (hlim : n + 21 ≤ 140737488355328)
    (htab : Lib.TabBelow Ybad.prog B w YbulkcmzyDoor.powName .u64 Lib.pow10Tab) :
    Calls Ybad.prog 16 #[sv, .int .i64 i, .int .i64 10] w fun e w' => ∃ v', e = .returned v' ∧ w'.ownsRow B 5 1 v' (n + (Lib.itoa i).length) (xs ++ Lib.byteCells (Lib.itoa i)) ∧ RowKit.Below B w w' ∧ Lib.OthersKept 5 none w w' := Any.strconv_AppendInt_10 Ybad.laysM176 B n i h0 h1 sv xs w hown hBw hlim htab
end Go.Proofs
