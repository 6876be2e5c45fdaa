/-
  THE SHELF's CONTRACTS AT THIS DUMP (kit: shelf/once/tools/lay-shelf.mjs, lay-plain.mjs), in plain words, for the four library functions that the road calls. The layings 166 and 167 are typed by hand in the tool's form: the tool refuses them, for no body of their closure names the types string and any, which their structures bear.
-/
import Derived.Shelf.Strings.BuilderK
import Derived.Shelf.LaysM
import Derived.Shelf.Strconv.Itoa3
import Derived.Test.Qxb6630490aDoorRows
namespace Go.Proofs
open Go.Shelf
/-- The table's name, off the given row: the first variable that it names. -/
def Tryd.tabName : String := match Qxb6630490aDoor.Rows.fnTxnListSplitsAroundAnyElementRow.named with | n :: _ => n | [] => ""
def Tryd.lays169_ren : Go.Shelf.Ren := ⟨fun | 169 => 13 | n => n, fun | 70 => 29 | 9 => 9 | 0 => 0 | 72 => 32 | 37 => 30 | 127 => 41 | 3 => 3 | 5 => 5 | n => n, fun | n => n⟩
theorem Tryd.lays169 : Go.Proofs.Lays.n169 Tryd.prog Tryd.lays169_ren := {
  mixed := by kernel_rfl
  f169 := Tryd.func13.trans (congrArg some (by kernel_rfl))
  t0 := Tryd.underlying0
  a0 := Tryd.isAgg0
  z0 := Tryd.sizeOf0
  v0 := Tryd.zeroValue0
  t3 := Tryd.underlying3
  a3 := Tryd.isAgg3
  z3 := Tryd.sizeOf3
  v3 := Tryd.zeroValue3
  t9 := Tryd.underlying9
  a9 := Tryd.isAgg9
  z9 := Tryd.sizeOf9
  v9 := Tryd.zeroValue9
  t37 := Tryd.underlying30
  a37 := Tryd.isAgg30
  z37 := Tryd.sizeOf30
  v37 := Tryd.zeroValue30
  t70 := Tryd.underlying29
  a70 := Tryd.isAgg29
  z70 := Tryd.sizeOf29
  v70 := Tryd.zeroValue29
  t72 := Tryd.underlying32
  a72 := Tryd.isAgg32
  z72 := Tryd.sizeOf32
  v72 := Tryd.zeroValue32
  t127 := Tryd.underlying41
  a127 := Tryd.isAgg41
  z127 := Tryd.sizeOf41
  v127 := Tryd.zeroValue41 }
theorem Tryd.Builder_Extra_169 : Builder.Extra Tryd.prog Tryd.lays169_ren := {
  sizeBuilder := by kernel_rfl
  liesBuilder := by kernel_rfl
  t5 := Tryd.underlying5
  a5 := Tryd.isAgg5
  z5 := Tryd.sizeOf5
  v5 := Tryd.zeroValue5
  infoByte := by kernel_rfl
  cellsByte := by kernel_rfl
  sizeByte := by kernel_rfl
  neB5 := by decide }
def Tryd.lays167_ren : Go.Shelf.Ren := ⟨fun | 167 => 11 | 240 => 15 | 276 => 17 | n => n, fun | 0 => 0 | 3 => 3 | 4 => 4 | 5 => 5 | 9 => 9 | 20 => 20 | 37 => 30 | 70 => 29 | 72 => 32 | 75 => 34 | 80 => 38 | 164 => 42 | n => n, fun | n => n⟩
theorem Tryd.lays167 : Go.Proofs.Lays.n167 Tryd.prog Tryd.lays167_ren := {
  mixed := by kernel_rfl
  f167 := Tryd.func11.trans (congrArg some (by kernel_rfl))
  f240 := Tryd.func15.trans (congrArg some (by kernel_rfl))
  f276 := Tryd.func17.trans (congrArg some (by kernel_rfl))
  t0 := Tryd.underlying0
  a0 := Tryd.isAgg0
  z0 := Tryd.sizeOf0
  v0 := Tryd.zeroValue0
  t4 := Tryd.underlying4
  a4 := Tryd.isAgg4
  z4 := Tryd.sizeOf4
  v4 := Tryd.zeroValue4
  t5 := Tryd.underlying5
  a5 := Tryd.isAgg5
  z5 := Tryd.sizeOf5
  v5 := Tryd.zeroValue5
  t9 := Tryd.underlying9
  a9 := Tryd.isAgg9
  z9 := Tryd.sizeOf9
  v9 := Tryd.zeroValue9
  t20 := Tryd.underlying20
  a20 := Tryd.isAgg20
  z20 := Tryd.sizeOf20
  v20 := Tryd.zeroValue20
  t37 := Tryd.underlying30
  a37 := Tryd.isAgg30
  z37 := Tryd.sizeOf30
  v37 := Tryd.zeroValue30
  t70 := Tryd.underlying29
  a70 := Tryd.isAgg29
  z70 := Tryd.sizeOf29
  v70 := Tryd.zeroValue29
  t72 := Tryd.underlying32
  a72 := Tryd.isAgg32
  z72 := Tryd.sizeOf32
  v72 := Tryd.zeroValue32
  t75 := Tryd.underlying34
  a75 := Tryd.isAgg34
  z75 := Tryd.sizeOf34
  v75 := Tryd.zeroValue34
  t164 := Tryd.underlying42
  a164 := Tryd.isAgg42
  z164 := Tryd.sizeOf42
  v164 := Tryd.zeroValue42 }
theorem Tryd.Builder_Extra_167 : Builder.Extra Tryd.prog Tryd.lays167_ren := {
  sizeBuilder := by kernel_rfl
  liesBuilder := by kernel_rfl
  t5 := Tryd.underlying5
  a5 := Tryd.isAgg5
  z5 := Tryd.sizeOf5
  v5 := Tryd.zeroValue5
  infoByte := by kernel_rfl
  cellsByte := by kernel_rfl
  sizeByte := by kernel_rfl
  neB5 := by decide }
def Tryd.lays166_ren : Go.Shelf.Ren := ⟨fun | 166 => 12 | 240 => 15 | 276 => 17 | n => n, fun | 0 => 0 | 3 => 3 | 4 => 4 | 5 => 5 | 9 => 9 | 20 => 20 | 37 => 30 | 70 => 29 | 72 => 32 | 75 => 34 | 80 => 38 | 164 => 42 | n => n, fun | n => n⟩
theorem Tryd.lays166 : Go.Proofs.Lays.n166 Tryd.prog Tryd.lays166_ren := {
  mixed := by kernel_rfl
  f166 := Tryd.func12.trans (congrArg some (by kernel_rfl))
  f240 := Tryd.func15.trans (congrArg some (by kernel_rfl))
  f276 := Tryd.func17.trans (congrArg some (by kernel_rfl))
  t0 := Tryd.underlying0
  a0 := Tryd.isAgg0
  z0 := Tryd.sizeOf0
  v0 := Tryd.zeroValue0
  t3 := Tryd.underlying3
  a3 := Tryd.isAgg3
  z3 := Tryd.sizeOf3
  v3 := Tryd.zeroValue3
  t4 := Tryd.underlying4
  a4 := Tryd.isAgg4
  z4 := Tryd.sizeOf4
  v4 := Tryd.zeroValue4
  t9 := Tryd.underlying9
  a9 := Tryd.isAgg9
  z9 := Tryd.sizeOf9
  v9 := Tryd.zeroValue9
  t20 := Tryd.underlying20
  a20 := Tryd.isAgg20
  z20 := Tryd.sizeOf20
  v20 := Tryd.zeroValue20
  t37 := Tryd.underlying30
  a37 := Tryd.isAgg30
  z37 := Tryd.sizeOf30
  v37 := Tryd.zeroValue30
  t70 := Tryd.underlying29
  a70 := Tryd.isAgg29
  z70 := Tryd.sizeOf29
  v70 := Tryd.zeroValue29
  t72 := Tryd.underlying32
  a72 := Tryd.isAgg32
  z72 := Tryd.sizeOf32
  v72 := Tryd.zeroValue32
  t75 := Tryd.underlying34
  a75 := Tryd.isAgg34
  z75 := Tryd.sizeOf34
  v75 := Tryd.zeroValue34
  t164 := Tryd.underlying42
  a164 := Tryd.isAgg42
  z164 := Tryd.sizeOf42
  v164 := Tryd.zeroValue42 }
theorem Tryd.Builder_Extra_166 : Builder.Extra Tryd.prog Tryd.lays166_ren := {
  sizeBuilder := by kernel_rfl
  liesBuilder := by kernel_rfl
  t5 := Tryd.underlying5
  a5 := Tryd.isAgg5
  z5 := Tryd.sizeOf5
  v5 := Tryd.zeroValue5
  infoByte := by kernel_rfl
  cellsByte := by kernel_rfl
  sizeByte := by kernel_rfl
  neB5 := by decide }
def Tryd.laysM171_ren : Go.Shelf.Ren := ⟨fun | 171 => 14 | 243 => 16 | 246 => 18 | 283 => 19 | 284 => 20 | 285 => 21 | 286 => 22 | 129 => 24 | 317 => 23 | 318 => 25 | 319 => 26 | 320 => 27 | 337 => 28 | 338 => 29 | n => n, fun | 3 => 3 | 9 => 9 | 2 => 2 | 4 => 4 | 171 => 45 | 0 => 0 | 53 => 39 | 37 => 30 | 5 => 5 | 173 => 48 | 212 => 52 | 51 => 53 | 20 => 20 | 213 => 54 | 46 => 56 | 232 => 59 | 233 => 60 | n => n, fun | 17 => 0 | 18 => 1 | 19 => 2 | n => n⟩
theorem Tryd.laysM171 : Go.Proofs.LaysM.n171 Tryd.prog Tryd.laysM171_ren := {
  mixed := by kernel_rfl
  f129 := Tryd.func24.trans (congrArg some (by kernel_rfl))
  f171 := Tryd.func14.trans (congrArg some (by kernel_rfl))
  f243 := Tryd.func16.trans (congrArg some (by kernel_rfl))
  f246 := Tryd.func18.trans (congrArg some (by kernel_rfl))
  f283 := Tryd.func19.trans (congrArg some (by kernel_rfl))
  f284 := Tryd.func20.trans (congrArg some (by kernel_rfl))
  f285 := Tryd.func21.trans (congrArg some (by kernel_rfl))
  f286 := Tryd.func22.trans (congrArg some (by kernel_rfl))
  f317 := Tryd.func23.trans (congrArg some (by kernel_rfl))
  f318 := Tryd.func25.trans (congrArg some (by kernel_rfl))
  f319 := Tryd.func26.trans (congrArg some (by kernel_rfl))
  f320 := Tryd.func27.trans (congrArg some (by kernel_rfl))
  f337 := Tryd.func28.trans (congrArg some (by kernel_rfl))
  f338 := Tryd.func29.trans (congrArg some (by kernel_rfl))
  t0 := Tryd.underlying0
  a0 := Tryd.isAgg0
  z0 := Tryd.sizeOf0
  v0 := Tryd.zeroValue0
  t2 := Tryd.underlying2
  a2 := Tryd.isAgg2
  z2 := Tryd.sizeOf2
  v2 := Tryd.zeroValue2
  t3 := Tryd.underlying3
  a3 := Tryd.isAgg3
  z3 := Tryd.sizeOf3
  v3 := Tryd.zeroValue3
  t4 := Tryd.underlying4
  a4 := Tryd.isAgg4
  z4 := Tryd.sizeOf4
  v4 := Tryd.zeroValue4
  t5 := Tryd.underlying5
  a5 := Tryd.isAgg5
  z5 := Tryd.sizeOf5
  v5 := Tryd.zeroValue5
  t9 := Tryd.underlying9
  a9 := Tryd.isAgg9
  z9 := Tryd.sizeOf9
  v9 := Tryd.zeroValue9
  t20 := Tryd.underlying20
  a20 := Tryd.isAgg20
  z20 := Tryd.sizeOf20
  v20 := Tryd.zeroValue20
  t37 := Tryd.underlying30
  a37 := Tryd.isAgg30
  z37 := Tryd.sizeOf30
  v37 := Tryd.zeroValue30
  t46 := Tryd.underlying56
  a46 := Tryd.isAgg56
  z46 := Tryd.sizeOf56
  v46 := Tryd.zeroValue56
  t51 := Tryd.underlying53
  a51 := Tryd.isAgg53
  z51 := Tryd.sizeOf53
  v51 := Tryd.zeroValue53
  t53 := Tryd.underlying39
  a53 := Tryd.isAgg39
  z53 := Tryd.sizeOf39
  v53 := Tryd.zeroValue39
  t171 := Tryd.underlying45
  a171 := Tryd.isAgg45
  z171 := Tryd.sizeOf45
  v171 := Tryd.zeroValue45
  t173 := Tryd.underlying48
  a173 := Tryd.isAgg48
  z173 := Tryd.sizeOf48
  v173 := Tryd.zeroValue48
  t212 := Tryd.underlying52
  a212 := Tryd.isAgg52
  z212 := Tryd.sizeOf52
  v212 := Tryd.zeroValue52
  t213 := Tryd.underlying54
  a213 := Tryd.isAgg54
  z213 := Tryd.sizeOf54
  t232 := Tryd.underlying59
  a232 := Tryd.isAgg59
  z232 := Tryd.sizeOf59
  v232 := Tryd.zeroValue59
  t233 := Tryd.underlying60
  a233 := Tryd.isAgg60
  z233 := Tryd.sizeOf60
  v233 := Tryd.zeroValue60
  g17 := by kernel_rfl
  g18 := by kernel_rfl
  g19 := by kernel_rfl
  i0 := by kernel_rfl
  i2 := by kernel_rfl
  i3 := by kernel_rfl
  i4 := by kernel_rfl
  i5 := by kernel_rfl
  i9 := by kernel_rfl
  i20 := by kernel_rfl
  i37 := by kernel_rfl
  i46 := by kernel_rfl
  i51 := by kernel_rfl
  i53 := by kernel_rfl
  i171 := by kernel_rfl
  i173 := by kernel_rfl
  i212 := by kernel_rfl
  i232 := by kernel_rfl
  i233 := by kernel_rfl
  m17 := by kernel_rfl
  m18 := by kernel_rfl
  m19 := by kernel_rfl }
open Go.RowKit in
theorem Tryd.Builder_WriteByte_k (B b : Nat) (bs : List Value) (c : Int) (w : World) (h : Lib.IsBuilderF 32 5 B b bs w) (hlen : bs.length + 1 ≤ 140737488355328) (hBw : B ≤ w.heap.size) :
    Calls Tryd.prog 11 #[.pointer (some ⟨b, 0, none⟩), .int .u8 c] w fun e w' => e = .returned .nilIface ∧ (Lib.BuilderAtF 32 5 B b (.pointer (some ⟨b, 0, none⟩)) (bs ++ [.int .u8 c]) w' ∧ Below B w w' ∧ Lib.OthersKept 5 (some b) w w') := Any.Builder_WriteByte_k Tryd.lays167 Tryd.Builder_Extra_167 B b bs c w h hlen hBw
open Go.RowKit in
theorem Tryd.Builder_WriteString_k (B b : Nat) (bs : List Value) (s : ByteArray) (w : World) (h : Lib.IsBuilderF 32 5 B b bs w) (hlen : bs.length + s.size ≤ 140737488355328) (hBw : B ≤ w.heap.size) :
    Calls Tryd.prog 12 #[.pointer (some ⟨b, 0, none⟩), .string s] w fun e w' => e = .returned (.tuple #[.int .i64 s.size, .nilIface]) ∧ (Lib.BuilderAtF 32 5 B b (.pointer (some ⟨b, 0, none⟩)) (bs ++ Lib.strCells s) w' ∧ Below B w w' ∧ Lib.OthersKept 5 (some b) w w') := Any.Builder_WriteString_k Tryd.lays166 Tryd.Builder_Extra_166 B b bs s w h hlen hBw
open Go.RowKit in
theorem Tryd.Builder_String_any_k (B b : Nat) (l : List UInt8) (w : World) (h : Lib.IsBuilderF 32 5 B b (Lib.byteCells l) w) (hBw : B ≤ w.heap.size) :
    Calls Tryd.prog 13 #[.pointer (some ⟨b, 0, none⟩)] w fun e w' => e = .returned (.string ⟨l.toArray⟩) ∧ (Lib.IsBuilderF 32 5 B b (Lib.byteCells l) w' ∧ Below B w w' ∧ Lib.OthersKept 5 (some b) w w') := Any.Builder_String_any_k Tryd.lays169 Tryd.Builder_Extra_169 B b l w h hBw
open Go.RowKit Go.Sort Go.Lib in
theorem Tryd.strconv_Itoa (n : Int) (h0 : -9223372036854775808 ≤ n) (h1 : n ≤ 9223372036854775807) (w : World) (htab : Lib.TabIs Tryd.prog w Tryd.tabName .u64 Lib.pow10Tab) :
    Calls Tryd.prog 14 #[.int .i64 n] w fun e w' => e = .returned (.string ⟨(Lib.itoa n).toArray⟩) ∧ ∃ k os, w' = grow (w.drewN k) os := Any.strconv_Itoa Tryd.laysM171 n h0 h1 w htab
end Go.Proofs
