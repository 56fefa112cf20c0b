/-
  Layings of the library's contracts at this program (written by the kit's lay-plain, taken over by a program). Conditions: none.
-/
import Derived.Shelf.Bytes.WriteStringAt
import Derived.Shelf.Bytes.StringAt
import Derived.Test.YtdjnknkdnacbnaaDoorRows
namespace Go.Proofs.YtdjnknkdnacbnaaDoor
open Go.Shelf

def lays178_ren : Go.Shelf.Ren := ⟨fun | 178 => 23 | 251 => 24 | 252 => 25 | 181 => 26 | 184 => 27 | 290 => 28 | 324 => 29 | n => n, fun | 130 => 64 | 9 => 9 | 3 => 3 | 75 => 61 | 0 => 0 | 93 => 50 | 91 => 48 | 131 => 65 | 4 => 4 | 37 => 38 | 20 => 20 | 80 => 58 | 5 => 5 | n => n, fun | 14 => 0 | n => n⟩
theorem lays178 : Go.Proofs.LaysM.n178 Tryd.prog lays178_ren := {
  mixed := by kernel_rfl
  f178 := Tryd.func23.trans (congrArg some (by kernel_rfl))
  f181 := Tryd.func26.trans (congrArg some (by kernel_rfl))
  f184 := Tryd.func27.trans (congrArg some (by kernel_rfl))
  f251 := Tryd.func24.trans (congrArg some (by kernel_rfl))
  f252 := Tryd.func25.trans (congrArg some (by kernel_rfl))
  f290 := Tryd.func28.trans (congrArg some (by kernel_rfl))
  f324 := Tryd.func29.trans (congrArg some (by kernel_rfl))
  t0 := Tryd.underlying0
  a0 := Tryd.isAgg0
  z0 := Tryd.sizeOf0
  v0 := Tryd.zeroValue0
  t3 := Tryd.underlying3
  a3 := Tryd.isAgg3
  z3 := Tryd.sizeOf3
  v3 := Tryd.zeroValue3
  t4 := Tryd.underlying4
  a4 := Tryd.isAgg4
  z4 := Tryd.sizeOf4
  v4 := Tryd.zeroValue4
  t9 := Tryd.underlying9
  a9 := Tryd.isAgg9
  z9 := Tryd.sizeOf9
  v9 := Tryd.zeroValue9
  t20 := Tryd.underlying20
  a20 := Tryd.isAgg20
  z20 := Tryd.sizeOf20
  v20 := Tryd.zeroValue20
  t37 := Tryd.underlying38
  a37 := Tryd.isAgg38
  z37 := Tryd.sizeOf38
  v37 := Tryd.zeroValue38
  t75 := Tryd.underlying61
  a75 := Tryd.isAgg61
  z75 := Tryd.sizeOf61
  v75 := Tryd.zeroValue61
  t91 := Tryd.underlying48
  a91 := Tryd.isAgg48
  z91 := Tryd.sizeOf48
  v91 := Tryd.zeroValue48
  t93 := Tryd.underlying50
  a93 := Tryd.isAgg50
  z93 := Tryd.sizeOf50
  v93 := Tryd.zeroValue50
  t130 := Tryd.underlying64
  a130 := Tryd.isAgg64
  z130 := Tryd.sizeOf64
  v130 := Tryd.zeroValue64
  t131 := Tryd.underlying65
  a131 := Tryd.isAgg65
  z131 := Tryd.sizeOf65
  v131 := Tryd.zeroValue65
  g14 := by kernel_rfl
  t5 := Tryd.underlying5
  a5 := Tryd.isAgg5
  z5 := Tryd.sizeOf5
  v5 := Tryd.zeroValue5
  t80 := Tryd.underlying58
  a80 := Tryd.isAgg58
  z80 := Tryd.sizeOf58
  v80 := Tryd.zeroValue58
  i0 := by kernel_rfl
  i3 := by kernel_rfl
  i4 := by kernel_rfl
  i5 := by kernel_rfl
  i9 := by kernel_rfl
  i20 := by kernel_rfl
  i37 := by kernel_rfl
  i75 := by kernel_rfl
  i80 := by kernel_rfl
  i91 := by kernel_rfl
  i93 := by kernel_rfl
  i130 := by kernel_rfl
  i131 := by kernel_rfl
  m14 := by kernel_rfl }

def lays182_ren : Go.Shelf.Ren := ⟨fun | 182 => 22 | n => n, fun | 130 => 64 | 9 => 9 | 4 => 4 | 0 => 0 | 93 => 50 | 37 => 38 | 3 => 3 | 91 => 48 | 5 => 5 | n => n, fun | n => n⟩
theorem lays182 : Go.Proofs.LaysM.n182 Tryd.prog lays182_ren := {
  mixed := by kernel_rfl
  f182 := Tryd.func22.trans (congrArg some (by kernel_rfl))
  t0 := Tryd.underlying0
  a0 := Tryd.isAgg0
  z0 := Tryd.sizeOf0
  v0 := Tryd.zeroValue0
  t3 := Tryd.underlying3
  a3 := Tryd.isAgg3
  z3 := Tryd.sizeOf3
  v3 := Tryd.zeroValue3
  t4 := Tryd.underlying4
  a4 := Tryd.isAgg4
  z4 := Tryd.sizeOf4
  v4 := Tryd.zeroValue4
  t9 := Tryd.underlying9
  a9 := Tryd.isAgg9
  z9 := Tryd.sizeOf9
  v9 := Tryd.zeroValue9
  t37 := Tryd.underlying38
  a37 := Tryd.isAgg38
  z37 := Tryd.sizeOf38
  v37 := Tryd.zeroValue38
  t93 := Tryd.underlying50
  a93 := Tryd.isAgg50
  z93 := Tryd.sizeOf50
  v93 := Tryd.zeroValue50
  t130 := Tryd.underlying64
  a130 := Tryd.isAgg64
  z130 := Tryd.sizeOf64
  v130 := Tryd.zeroValue64
  t5 := Tryd.underlying5
  a5 := Tryd.isAgg5
  z5 := Tryd.sizeOf5
  v5 := Tryd.zeroValue5
  t91 := Tryd.underlying48
  a91 := Tryd.isAgg48
  z91 := Tryd.sizeOf48
  v91 := Tryd.zeroValue48
  i0 := by kernel_rfl
  i3 := by kernel_rfl
  i4 := by kernel_rfl
  i5 := by kernel_rfl
  i9 := by kernel_rfl
  i37 := by kernel_rfl
  i91 := by kernel_rfl
  i93 := by kernel_rfl
  i130 := by kernel_rfl }

end Go.Proofs.YtdjnknkdnacbnaaDoor
