/-
  Layings of the library's contracts at this program (written by the kit's lay-plain, taken over by a program). Conditions: none.
-/
import Derived.Shelf.Unicode.DecodeAny
import Derived.Shelf.Unicode.DecodeLast
import Derived.Test.YtohhcmcelofgeaaDoorRows
namespace Go.Proofs.YtohhcmcelofgeaaDoor
open Go.Shelf

def lays260_ren : Go.Shelf.Ren := ⟨fun | 260 => 30 | n => n, fun | 9 => 9 | 21 => 21 | 3 => 3 | 4 => 4 | 5 => 5 | 119 => 100 | 0 => 0 | 46 => 69 | 139 => 103 | 138 => 102 | n => n, fun | 3 => 0 | 4 => 1 | n => n⟩
theorem lays260 : Go.Proofs.Lays.n260 Tryd.prog lays260_ren := {
  mixed := by kernel_rfl
  f260 := Tryd.func30.trans (congrArg some (by kernel_rfl))
  t0 := Tryd.underlying0
  a0 := Tryd.isAgg0
  z0 := Tryd.sizeOf0
  v0 := Tryd.zeroValue0
  t3 := Tryd.underlying3
  a3 := Tryd.isAgg3
  z3 := Tryd.sizeOf3
  v3 := Tryd.zeroValue3
  t4 := Tryd.underlying4
  a4 := Tryd.isAgg4
  z4 := Tryd.sizeOf4
  v4 := Tryd.zeroValue4
  t5 := Tryd.underlying5
  a5 := Tryd.isAgg5
  z5 := Tryd.sizeOf5
  v5 := Tryd.zeroValue5
  t9 := Tryd.underlying9
  a9 := Tryd.isAgg9
  z9 := Tryd.sizeOf9
  v9 := Tryd.zeroValue9
  t21 := Tryd.underlying21
  a21 := Tryd.isAgg21
  z21 := Tryd.sizeOf21
  v21 := Tryd.zeroValue21
  t46 := Tryd.underlying69
  a46 := Tryd.isAgg69
  z46 := Tryd.sizeOf69
  v46 := Tryd.zeroValue69
  t119 := Tryd.underlying100
  a119 := Tryd.isAgg100
  z119 := Tryd.sizeOf100
  t138 := Tryd.underlying102
  a138 := Tryd.isAgg102
  z138 := Tryd.sizeOf102
  v138 := Tryd.zeroValue102
  t139 := Tryd.underlying103
  a139 := Tryd.isAgg103
  z139 := Tryd.sizeOf103
  v139 := Tryd.zeroValue103
  g3 := by kernel_rfl
  g4 := by kernel_rfl }

def lays197_ren : Go.Shelf.Ren := ⟨fun | 197 => 26 | 260 => 30 | n => n, fun | 9 => 9 | 21 => 21 | 3 => 3 | 4 => 4 | 5 => 5 | 105 => 90 | 119 => 100 | 0 => 0 | 46 => 69 | 139 => 103 | 138 => 102 | n => n, fun | 3 => 0 | 4 => 1 | n => n⟩
theorem lays197 : Go.Proofs.Lays.n197 Tryd.prog lays197_ren := {
  mixed := by kernel_rfl
  f197 := Tryd.func26.trans (congrArg some (by kernel_rfl))
  f260 := Tryd.func30.trans (congrArg some (by kernel_rfl))
  t0 := Tryd.underlying0
  a0 := Tryd.isAgg0
  z0 := Tryd.sizeOf0
  v0 := Tryd.zeroValue0
  t3 := Tryd.underlying3
  a3 := Tryd.isAgg3
  z3 := Tryd.sizeOf3
  v3 := Tryd.zeroValue3
  t4 := Tryd.underlying4
  a4 := Tryd.isAgg4
  z4 := Tryd.sizeOf4
  v4 := Tryd.zeroValue4
  t5 := Tryd.underlying5
  a5 := Tryd.isAgg5
  z5 := Tryd.sizeOf5
  v5 := Tryd.zeroValue5
  t9 := Tryd.underlying9
  a9 := Tryd.isAgg9
  z9 := Tryd.sizeOf9
  v9 := Tryd.zeroValue9
  t21 := Tryd.underlying21
  a21 := Tryd.isAgg21
  z21 := Tryd.sizeOf21
  v21 := Tryd.zeroValue21
  t46 := Tryd.underlying69
  a46 := Tryd.isAgg69
  z46 := Tryd.sizeOf69
  v46 := Tryd.zeroValue69
  t105 := Tryd.underlying90
  a105 := Tryd.isAgg90
  z105 := Tryd.sizeOf90
  v105 := Tryd.zeroValue90
  t119 := Tryd.underlying100
  a119 := Tryd.isAgg100
  z119 := Tryd.sizeOf100
  t138 := Tryd.underlying102
  a138 := Tryd.isAgg102
  z138 := Tryd.sizeOf102
  v138 := Tryd.zeroValue102
  t139 := Tryd.underlying103
  a139 := Tryd.isAgg103
  z139 := Tryd.sizeOf103
  v139 := Tryd.zeroValue103
  g3 := by kernel_rfl
  g4 := by kernel_rfl }

def lays271_ren : Go.Shelf.Ren := ⟨fun | 271 => 28 | 120 => 31 | 197 => 26 | 260 => 30 | n => n, fun | 9 => 9 | 21 => 21 | 3 => 3 | 4 => 4 | 5 => 5 | 105 => 90 | 119 => 100 | 0 => 0 | 46 => 69 | 139 => 103 | 138 => 102 | n => n, fun | 3 => 0 | 4 => 1 | n => n⟩
theorem lays271 : Go.Proofs.Lays.n271 Tryd.prog lays271_ren := {
  mixed := by kernel_rfl
  f120 := Tryd.func31.trans (congrArg some (by kernel_rfl))
  f197 := Tryd.func26.trans (congrArg some (by kernel_rfl))
  f260 := Tryd.func30.trans (congrArg some (by kernel_rfl))
  f271 := Tryd.func28.trans (congrArg some (by kernel_rfl))
  t0 := Tryd.underlying0
  a0 := Tryd.isAgg0
  z0 := Tryd.sizeOf0
  v0 := Tryd.zeroValue0
  t3 := Tryd.underlying3
  a3 := Tryd.isAgg3
  z3 := Tryd.sizeOf3
  v3 := Tryd.zeroValue3
  t4 := Tryd.underlying4
  a4 := Tryd.isAgg4
  z4 := Tryd.sizeOf4
  v4 := Tryd.zeroValue4
  t5 := Tryd.underlying5
  a5 := Tryd.isAgg5
  z5 := Tryd.sizeOf5
  v5 := Tryd.zeroValue5
  t9 := Tryd.underlying9
  a9 := Tryd.isAgg9
  z9 := Tryd.sizeOf9
  v9 := Tryd.zeroValue9
  t21 := Tryd.underlying21
  a21 := Tryd.isAgg21
  z21 := Tryd.sizeOf21
  v21 := Tryd.zeroValue21
  t46 := Tryd.underlying69
  a46 := Tryd.isAgg69
  z46 := Tryd.sizeOf69
  v46 := Tryd.zeroValue69
  t105 := Tryd.underlying90
  a105 := Tryd.isAgg90
  z105 := Tryd.sizeOf90
  v105 := Tryd.zeroValue90
  t119 := Tryd.underlying100
  a119 := Tryd.isAgg100
  z119 := Tryd.sizeOf100
  t138 := Tryd.underlying102
  a138 := Tryd.isAgg102
  z138 := Tryd.sizeOf102
  v138 := Tryd.zeroValue102
  t139 := Tryd.underlying103
  a139 := Tryd.isAgg103
  z139 := Tryd.sizeOf103
  v139 := Tryd.zeroValue103
  g3 := by kernel_rfl
  g4 := by kernel_rfl }

end Go.Proofs.YtohhcmcelofgeaaDoor
