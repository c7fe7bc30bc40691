/-
  The shelf's contract of strings.Join at this dump: the laying as the shelf's tool wrote it in plain words (lay-shelf, then lay-plain), cut to the one that is used.
-/
import Derived.Shelf.Strings.Builder1
import Derived.Shelf.Strings.Builder2
import Derived.Shelf.Strings.OnBuilder
import Derived.Test.YbulkcwvsFmtProg
namespace Go.Proofs
open Go.Shelf
def Ybaf.lays156_ren : Go.Shelf.Ren := ⟨fun | 156 => 48 | 165 => 58 | 166 => 59 | 169 => 60 | 240 => 62 | 241 => 63 | 276 => 64 | 277 => 65 | n => n, fun | 31 => 63 | 9 => 9 | 3 => 3 | 4 => 4 | 0 => 0 | 20 => 20 | 72 => 163 | 76 => 165 | 70 => 161 | 37 => 61 | 75 => 31 | 127 => 169 | 164 => 120 | 5 => 5 | 80 => 167 | n => n, fun | n => n⟩
theorem Ybaf.lays156 : Go.Proofs.Lays.n156 Ybaf.prog Ybaf.lays156_ren := {
  mixed := by kernel_rfl
  f156 := Ybaf.func48.trans (congrArg some (by kernel_rfl))
  f165 := Ybaf.func58.trans (congrArg some (by kernel_rfl))
  f166 := Ybaf.func59.trans (congrArg some (by kernel_rfl))
  f169 := Ybaf.func60.trans (congrArg some (by kernel_rfl))
  f240 := Ybaf.func62.trans (congrArg some (by kernel_rfl))
  f241 := Ybaf.func63.trans (congrArg some (by kernel_rfl))
  f276 := Ybaf.func64.trans (congrArg some (by kernel_rfl))
  f277 := Ybaf.func65.trans (congrArg some (by kernel_rfl))
  t0 := Ybaf.underlying0
  a0 := Ybaf.isAgg0
  z0 := Ybaf.sizeOf0
  v0 := Ybaf.zeroValue0
  t3 := Ybaf.underlying3
  a3 := Ybaf.isAgg3
  z3 := Ybaf.sizeOf3
  v3 := Ybaf.zeroValue3
  t4 := Ybaf.underlying4
  a4 := Ybaf.isAgg4
  z4 := Ybaf.sizeOf4
  v4 := Ybaf.zeroValue4
  t9 := Ybaf.underlying9
  a9 := Ybaf.isAgg9
  z9 := Ybaf.sizeOf9
  v9 := Ybaf.zeroValue9
  t20 := Ybaf.underlying20
  a20 := Ybaf.isAgg20
  z20 := Ybaf.sizeOf20
  v20 := Ybaf.zeroValue20
  t31 := Ybaf.underlying63
  a31 := Ybaf.isAgg63
  z31 := Ybaf.sizeOf63
  v31 := Ybaf.zeroValue63
  t37 := Ybaf.underlying61
  a37 := Ybaf.isAgg61
  z37 := Ybaf.sizeOf61
  v37 := Ybaf.zeroValue61
  t70 := Ybaf.underlying161
  a70 := Ybaf.isAgg161
  z70 := Ybaf.sizeOf161
  v70 := Ybaf.zeroValue161
  t72 := Ybaf.underlying163
  a72 := Ybaf.isAgg163
  z72 := Ybaf.sizeOf163
  v72 := Ybaf.zeroValue163
  t75 := Ybaf.underlying31
  a75 := Ybaf.isAgg31
  z75 := Ybaf.sizeOf31
  v75 := Ybaf.zeroValue31
  t76 := Ybaf.underlying165
  a76 := Ybaf.isAgg165
  z76 := Ybaf.sizeOf165
  v76 := Ybaf.zeroValue165
  t127 := Ybaf.underlying169
  a127 := Ybaf.isAgg169
  z127 := Ybaf.sizeOf169
  v127 := Ybaf.zeroValue169
  t164 := Ybaf.underlying120
  a164 := Ybaf.isAgg120
  z164 := Ybaf.sizeOf120
  v164 := Ybaf.zeroValue120 }
theorem Ybaf.Builder_Extra_156 : Builder.Extra Ybaf.prog Ybaf.lays156_ren := {
  sizeBuilder := by kernel_rfl
  liesBuilder := by kernel_rfl
  t5 := Ybaf.underlying5
  a5 := Ybaf.isAgg5
  z5 := Ybaf.sizeOf5
  v5 := Ybaf.zeroValue5
  infoByte := by kernel_rfl
  cellsByte := by kernel_rfl
  sizeByte := by kernel_rfl
  neB5 := by decide }
open Go.RowKit in
/-- No element: the empty string; the world is as it was. (Whatever the slice's address and capacity: a nil slice too.) (LAID: no walk: one application.) -/
theorem Ybaf.strings_Join_none (a : Option Addr) (c : Nat) (sep : ByteArray) (w : World) :
    Calls Ybaf.prog 48 #[.slice a 0 c, .string sep] w fun e w' => e = .returned (.string ⟨#[]⟩) ∧ w' = w := Any.strings_Join_none Ybaf.lays156 Ybaf.Builder_Extra_156 a c sep w
open Go.RowKit in
/-- strings.Join: "Join concatenates the elements of its first argument to create a single string. The separator string sep is placed between elements in the resulting string.": HOWEVER MANY ELEMENTS. Below the heap's end the world is as it was. (LAID: no walk: one application.) -/
theorem Ybaf.strings_Join (bk o c : Nat) (xs : List ByteArray) (sep : ByteArray) (w : World) (hcells : ∀ (j : Nat) x, xs[j]? = some x → w.cell? ⟨bk, o + j, none⟩ = some (.string x)) (hbk : bk < w.heap.size) (hN : xs.length ≤ 140737488355328) (hcap : xs.length ≤ c) (hlen : (Lib.join (xs.map (·.data.toList)) sep.data.toList).length ≤ 140737488355328) :
    Calls Ybaf.prog 48 #[.slice (some ⟨bk, o, none⟩) xs.length c, .string sep] w fun e w' => e = .returned (.string ⟨(Lib.join (xs.map (·.data.toList)) sep.data.toList).toArray⟩) ∧ Below w.heap.size w w' := Any.strings_Join Ybaf.lays156 Ybaf.Builder_Extra_156 bk o c xs sep w hcells hbk hN hcap hlen
end Go.Proofs
