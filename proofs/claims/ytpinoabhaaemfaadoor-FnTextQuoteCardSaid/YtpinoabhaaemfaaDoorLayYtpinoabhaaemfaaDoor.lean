/- What the kit's laying tool has written of bytes.growSlice and utf8.DecodeRuneInString at this program. -/
import Derived.Shelf.LaysM
import Derived.Shelf.Bytes.GrowSlice
import Derived.Shelf.Unicode.DecodeAny
import Derived.Test.YtpinoabhaaemfaaDoorProg
namespace Go.Proofs.YtpinoabhaaemfaaDoor.Abs
set_option linter.all false
set_option maxRecDepth 100000
open Go Go.Proofs Go.Shelf
def grL_ren : Go.Shelf.Ren := ⟨fun | 290 => 25 | 324 => 26 | n => n, fun | 37 => 26 | 3 => 3 | 0 => 0 | 4 => 4 | 20 => 20 | 75 => 39 | 5 => 5 | 80 => 36 | 9 => 9 | n => n, fun | 14 => 4 | n => n⟩
theorem grL : Go.Proofs.LaysM.n290 Tryd.prog grL_ren := {
  mixed := by kernel_rfl
  f290 := Tryd.func25.trans (congrArg some (by kernel_rfl))
  f324 := Tryd.func26.trans (congrArg some (by kernel_rfl))
  t0 := Tryd.underlying0
  a0 := Tryd.isAgg0
  z0 := Tryd.sizeOf0
  v0 := Tryd.zeroValue0
  t3 := Tryd.underlying3
  a3 := Tryd.isAgg3
  z3 := Tryd.sizeOf3
  v3 := Tryd.zeroValue3
  t4 := Tryd.underlying4
  a4 := Tryd.isAgg4
  z4 := Tryd.sizeOf4
  v4 := Tryd.zeroValue4
  t20 := Tryd.underlying20
  a20 := Tryd.isAgg20
  z20 := Tryd.sizeOf20
  v20 := Tryd.zeroValue20
  t37 := Tryd.underlying26
  a37 := Tryd.isAgg26
  z37 := Tryd.sizeOf26
  v37 := Tryd.zeroValue26
  t75 := Tryd.underlying39
  a75 := Tryd.isAgg39
  z75 := Tryd.sizeOf39
  v75 := Tryd.zeroValue39
  g14 := by kernel_rfl
  t5 := Tryd.underlying5
  a5 := Tryd.isAgg5
  z5 := Tryd.sizeOf5
  v5 := Tryd.zeroValue5
  t9 := Tryd.underlying9
  a9 := Tryd.isAgg9
  z9 := Tryd.sizeOf9
  v9 := Tryd.zeroValue9
  t80 := Tryd.underlying36
  a80 := Tryd.isAgg36
  z80 := Tryd.sizeOf36
  v80 := Tryd.zeroValue36
  i0 := by kernel_rfl
  i3 := by kernel_rfl
  i4 := by kernel_rfl
  i5 := by kernel_rfl
  i9 := by kernel_rfl
  i20 := by kernel_rfl
  i37 := by kernel_rfl
  i75 := by kernel_rfl
  i80 := by kernel_rfl
  m14 := by kernel_rfl }
def ruL_ren : Go.Shelf.Ren := ⟨fun | 197 => 19 | 260 => 22 | n => n, fun | 9 => 9 | 21 => 21 | 3 => 3 | 4 => 4 | 5 => 5 | 105 => 44 | 119 => 51 | 0 => 0 | 46 => 37 | 139 => 54 | 138 => 53 | n => n, fun | 3 => 5 | 4 => 6 | n => n⟩
theorem ruL : Go.Proofs.Lays.n197 Tryd.prog ruL_ren := {
  mixed := by kernel_rfl
  f197 := Tryd.func19.trans (congrArg some (by kernel_rfl))
  f260 := Tryd.func22.trans (congrArg some (by kernel_rfl))
  t0 := Tryd.underlying0
  a0 := Tryd.isAgg0
  z0 := Tryd.sizeOf0
  v0 := Tryd.zeroValue0
  t3 := Tryd.underlying3
  a3 := Tryd.isAgg3
  z3 := Tryd.sizeOf3
  v3 := Tryd.zeroValue3
  t4 := Tryd.underlying4
  a4 := Tryd.isAgg4
  z4 := Tryd.sizeOf4
  v4 := Tryd.zeroValue4
  t5 := Tryd.underlying5
  a5 := Tryd.isAgg5
  z5 := Tryd.sizeOf5
  v5 := Tryd.zeroValue5
  t9 := Tryd.underlying9
  a9 := Tryd.isAgg9
  z9 := Tryd.sizeOf9
  v9 := Tryd.zeroValue9
  t21 := Tryd.underlying21
  a21 := Tryd.isAgg21
  z21 := Tryd.sizeOf21
  v21 := Tryd.zeroValue21
  t46 := Tryd.underlying37
  a46 := Tryd.isAgg37
  z46 := Tryd.sizeOf37
  v46 := Tryd.zeroValue37
  t105 := Tryd.underlying44
  a105 := Tryd.isAgg44
  z105 := Tryd.sizeOf44
  v105 := Tryd.zeroValue44
  t119 := Tryd.underlying51
  a119 := Tryd.isAgg51
  z119 := Tryd.sizeOf51
  t138 := Tryd.underlying53
  a138 := Tryd.isAgg53
  z138 := Tryd.sizeOf53
  v138 := Tryd.zeroValue53
  t139 := Tryd.underlying54
  a139 := Tryd.isAgg54
  z139 := Tryd.sizeOf54
  v139 := Tryd.zeroValue54
  g3 := by kernel_rfl
  g4 := by kernel_rfl }
end Go.Proofs.YtpinoabhaaemfaaDoor.Abs
