/-
  THE SHELF's CONTRACT ON strconv.AppendInt AT THIS DUMP (kit: shelf/once/tools/lay-shelf.mjs, lay-plain.mjs), in plain words.
-/
import Derived.Shelf.LaysM
import Derived.Shelf.Strconv.AppendIntPublic10
import Derived.Test.Qxb6631232aDoorRows
namespace Go.Proofs
open Go.Shelf
/-- The table's name, off the given row: the first variable that it names. -/
def Tryd.tabName : String := match Qxb6631232aDoor.Rows.fnRootBytesSplitsAtAnyCutRow.named with | n :: _ => n | [] => ""
def Tryd.laysM176_ren : Go.Shelf.Ren := ⟨fun | 176 => 15 | 249 => 16 | 288 => 17 | 283 => 18 | 284 => 19 | 285 => 20 | 286 => 21 | 129 => 23 | 317 => 22 | 318 => 24 | 319 => 25 | 320 => 26 | 337 => 27 | 338 => 28 | n => n, fun | 37 => 27 | 2 => 2 | 3 => 3 | 53 => 43 | 4 => 4 | 9 => 9 | 171 => 47 | 0 => 0 | 173 => 50 | 212 => 54 | 51 => 55 | 5 => 5 | 20 => 20 | 213 => 56 | 46 => 58 | 232 => 61 | 233 => 62 | n => n, fun | 17 => 0 | 18 => 1 | 19 => 2 | n => n⟩
theorem Tryd.laysM176 : Go.Proofs.LaysM.n176 Tryd.prog Tryd.laysM176_ren := {
  mixed := by kernel_rfl
  f129 := Tryd.func23.trans (congrArg some (by kernel_rfl))
  f176 := Tryd.func15.trans (congrArg some (by kernel_rfl))
  f249 := Tryd.func16.trans (congrArg some (by kernel_rfl))
  f283 := Tryd.func18.trans (congrArg some (by kernel_rfl))
  f284 := Tryd.func19.trans (congrArg some (by kernel_rfl))
  f285 := Tryd.func20.trans (congrArg some (by kernel_rfl))
  f286 := Tryd.func21.trans (congrArg some (by kernel_rfl))
  f288 := Tryd.func17.trans (congrArg some (by kernel_rfl))
  f317 := Tryd.func22.trans (congrArg some (by kernel_rfl))
  f318 := Tryd.func24.trans (congrArg some (by kernel_rfl))
  f319 := Tryd.func25.trans (congrArg some (by kernel_rfl))
  f320 := Tryd.func26.trans (congrArg some (by kernel_rfl))
  f337 := Tryd.func27.trans (congrArg some (by kernel_rfl))
  f338 := Tryd.func28.trans (congrArg some (by kernel_rfl))
  t0 := Tryd.underlying0
  a0 := Tryd.isAgg0
  z0 := Tryd.sizeOf0
  v0 := Tryd.zeroValue0
  t2 := Tryd.underlying2
  a2 := Tryd.isAgg2
  z2 := Tryd.sizeOf2
  v2 := Tryd.zeroValue2
  t3 := Tryd.underlying3
  a3 := Tryd.isAgg3
  z3 := Tryd.sizeOf3
  v3 := Tryd.zeroValue3
  t4 := Tryd.underlying4
  a4 := Tryd.isAgg4
  z4 := Tryd.sizeOf4
  v4 := Tryd.zeroValue4
  t5 := Tryd.underlying5
  a5 := Tryd.isAgg5
  z5 := Tryd.sizeOf5
  v5 := Tryd.zeroValue5
  t9 := Tryd.underlying9
  a9 := Tryd.isAgg9
  z9 := Tryd.sizeOf9
  v9 := Tryd.zeroValue9
  t20 := Tryd.underlying20
  a20 := Tryd.isAgg20
  z20 := Tryd.sizeOf20
  v20 := Tryd.zeroValue20
  t37 := Tryd.underlying27
  a37 := Tryd.isAgg27
  z37 := Tryd.sizeOf27
  v37 := Tryd.zeroValue27
  t46 := Tryd.underlying58
  a46 := Tryd.isAgg58
  z46 := Tryd.sizeOf58
  v46 := Tryd.zeroValue58
  t51 := Tryd.underlying55
  a51 := Tryd.isAgg55
  z51 := Tryd.sizeOf55
  v51 := Tryd.zeroValue55
  t53 := Tryd.underlying43
  a53 := Tryd.isAgg43
  z53 := Tryd.sizeOf43
  v53 := Tryd.zeroValue43
  t171 := Tryd.underlying47
  a171 := Tryd.isAgg47
  z171 := Tryd.sizeOf47
  v171 := Tryd.zeroValue47
  t173 := Tryd.underlying50
  a173 := Tryd.isAgg50
  z173 := Tryd.sizeOf50
  v173 := Tryd.zeroValue50
  t212 := Tryd.underlying54
  a212 := Tryd.isAgg54
  z212 := Tryd.sizeOf54
  v212 := Tryd.zeroValue54
  t213 := Tryd.underlying56
  a213 := Tryd.isAgg56
  z213 := Tryd.sizeOf56
  t232 := Tryd.underlying61
  a232 := Tryd.isAgg61
  z232 := Tryd.sizeOf61
  v232 := Tryd.zeroValue61
  t233 := Tryd.underlying62
  a233 := Tryd.isAgg62
  z233 := Tryd.sizeOf62
  v233 := Tryd.zeroValue62
  g17 := by kernel_rfl
  g18 := by kernel_rfl
  g19 := by kernel_rfl
  i0 := by kernel_rfl
  i2 := by kernel_rfl
  i3 := by kernel_rfl
  i4 := by kernel_rfl
  i5 := by kernel_rfl
  i9 := by kernel_rfl
  i20 := by kernel_rfl
  i37 := by kernel_rfl
  i46 := by kernel_rfl
  i51 := by kernel_rfl
  i53 := by kernel_rfl
  i171 := by kernel_rfl
  i173 := by kernel_rfl
  i212 := by kernel_rfl
  i232 := by kernel_rfl
  i233 := by kernel_rfl
  m17 := by kernel_rfl
  m18 := by kernel_rfl
  m19 := by kernel_rfl }
open Go.RowKit Go.Sort Go.Lib in
theorem Tryd.strconv_AppendInt_10 (B n : Nat) (i : Int) (h0 : -9223372036854775808 ≤ i) (h1 : i ≤ 9223372036854775807) (sv : Value) (xs : List Value) (w : World) (hown : w.ownsRow B 5 1 sv n xs) (hBw : B ≤ w.heap.size) (hlim : n + 21 ≤ 140737488355328) (htab : Lib.TabBelow Tryd.prog B w Tryd.tabName .u64 Lib.pow10Tab) :
    Calls Tryd.prog 15 #[sv, .int .i64 i, .int .i64 10] w fun e w' => ∃ v', e = .returned v' ∧ w'.ownsRow B 5 1 v' (n + (Lib.itoa i).length) (xs ++ Lib.byteCells (Lib.itoa i)) ∧ Below B w w' ∧ Lib.OthersKept 5 none w w' := Any.strconv_AppendInt_10 Tryd.laysM176 B n i h0 h1 sv xs w hown hBw hlim htab
end Go.Proofs
