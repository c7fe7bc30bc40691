/-
  The shelf's contract of internal/strconv.AppendUint at base 10, at this dump: the laying as the shelf's tool wrote it in plain words (lay-shelf, then lay-plain), cut to the one that is used.
-/
import Derived.Shelf.LaysM
import Derived.Shelf.Strconv.AppendUint10
import Derived.Shelf.Strconv.AppendInt10
import Derived.Test.YbulkcwtaDoorProg
namespace Go.Proofs
open Go.Shelf
def Ybad.laysM288_ren : Go.Shelf.Ren := ⟨fun | 288 => 14 | 283 => 16 | 284 => 17 | 285 => 18 | 286 => 19 | 129 => 21 | 317 => 20 | 318 => 22 | 319 => 23 | 320 => 24 | 337 => 25 | 338 => 26 | n => n, fun | 37 => 22 | 53 => 32 | 3 => 3 | 4 => 4 | 9 => 9 | 171 => 42 | 0 => 0 | 173 => 45 | 212 => 49 | 51 => 50 | 5 => 5 | 20 => 20 | 213 => 51 | 46 => 53 | 232 => 56 | 233 => 57 | n => n, fun | 17 => 0 | 18 => 1 | 19 => 2 | n => n⟩
theorem Ybad.laysM288 : Go.Proofs.LaysM.n288 Ybad.prog Ybad.laysM288_ren := {
  mixed := by kernel_rfl
  f129 := Ybad.func21.trans (congrArg some (by kernel_rfl))
  f283 := Ybad.func16.trans (congrArg some (by kernel_rfl))
  f284 := Ybad.func17.trans (congrArg some (by kernel_rfl))
  f285 := Ybad.func18.trans (congrArg some (by kernel_rfl))
  f286 := Ybad.func19.trans (congrArg some (by kernel_rfl))
  f288 := Ybad.func14.trans (congrArg some (by kernel_rfl))
  f317 := Ybad.func20.trans (congrArg some (by kernel_rfl))
  f318 := Ybad.func22.trans (congrArg some (by kernel_rfl))
  f319 := Ybad.func23.trans (congrArg some (by kernel_rfl))
  f320 := Ybad.func24.trans (congrArg some (by kernel_rfl))
  f337 := Ybad.func25.trans (congrArg some (by kernel_rfl))
  f338 := Ybad.func26.trans (congrArg some (by kernel_rfl))
  t0 := Ybad.underlying0
  a0 := Ybad.isAgg0
  z0 := Ybad.sizeOf0
  v0 := Ybad.zeroValue0
  t3 := Ybad.underlying3
  a3 := Ybad.isAgg3
  z3 := Ybad.sizeOf3
  v3 := Ybad.zeroValue3
  t4 := Ybad.underlying4
  a4 := Ybad.isAgg4
  z4 := Ybad.sizeOf4
  v4 := Ybad.zeroValue4
  t5 := Ybad.underlying5
  a5 := Ybad.isAgg5
  z5 := Ybad.sizeOf5
  v5 := Ybad.zeroValue5
  t9 := Ybad.underlying9
  a9 := Ybad.isAgg9
  z9 := Ybad.sizeOf9
  v9 := Ybad.zeroValue9
  t20 := Ybad.underlying20
  a20 := Ybad.isAgg20
  z20 := Ybad.sizeOf20
  v20 := Ybad.zeroValue20
  t37 := Ybad.underlying22
  a37 := Ybad.isAgg22
  z37 := Ybad.sizeOf22
  v37 := Ybad.zeroValue22
  t46 := Ybad.underlying53
  a46 := Ybad.isAgg53
  z46 := Ybad.sizeOf53
  v46 := Ybad.zeroValue53
  t51 := Ybad.underlying50
  a51 := Ybad.isAgg50
  z51 := Ybad.sizeOf50
  v51 := Ybad.zeroValue50
  t53 := Ybad.underlying32
  a53 := Ybad.isAgg32
  z53 := Ybad.sizeOf32
  v53 := Ybad.zeroValue32
  t171 := Ybad.underlying42
  a171 := Ybad.isAgg42
  z171 := Ybad.sizeOf42
  v171 := Ybad.zeroValue42
  t173 := Ybad.underlying45
  a173 := Ybad.isAgg45
  z173 := Ybad.sizeOf45
  v173 := Ybad.zeroValue45
  t212 := Ybad.underlying49
  a212 := Ybad.isAgg49
  z212 := Ybad.sizeOf49
  v212 := Ybad.zeroValue49
  t213 := Ybad.underlying51
  a213 := Ybad.isAgg51
  z213 := Ybad.sizeOf51
  t232 := Ybad.underlying56
  a232 := Ybad.isAgg56
  z232 := Ybad.sizeOf56
  v232 := Ybad.zeroValue56
  t233 := Ybad.underlying57
  a233 := Ybad.isAgg57
  z233 := Ybad.sizeOf57
  v233 := Ybad.zeroValue57
  g17 := by kernel_rfl
  g18 := by kernel_rfl
  g19 := by kernel_rfl
  i0 := by kernel_rfl
  i3 := by kernel_rfl
  i4 := by kernel_rfl
  i5 := by kernel_rfl
  i9 := by kernel_rfl
  i20 := by kernel_rfl
  i37 := by kernel_rfl
  i46 := by kernel_rfl
  i51 := by kernel_rfl
  i53 := by kernel_rfl
  i171 := by kernel_rfl
  i173 := by kernel_rfl
  i212 := by kernel_rfl
  i232 := by kernel_rfl
  i233 := by kernel_rfl
  m17 := by kernel_rfl
  m18 := by kernel_rfl
  m19 := by kernel_rfl }
end Go.Proofs
