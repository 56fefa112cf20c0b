/-
  Layings of the library's contracts at this program (written by the kit's lay-plain, taken over by a program). Conditions: none.
-/
import Derived.Shelf.Sort.Plain
import Derived.Shelf.Slices.In.SortNone2
import Derived.Test.YthmijakellfbiaaDoorRows
namespace Go.Proofs.YthmijakellfbiaaDoor
open Go.Shelf

def lays192_ren : Go.Shelf.Ren := ⟨fun | 192 => 19 | 190 => 26 | 125 => 33 | 258 => 32 | 128 => 45 | 129 => 46 | 302 => 36 | 303 => 37 | 304 => 38 | 305 => 39 | 306 => 40 | 307 => 41 | 308 => 42 | 309 => 43 | 310 => 44 | 333 => 47 | 329 => 48 | 330 => 49 | 334 => 50 | 335 => 51 | 336 => 52 | 344 => 53 | n => n, fun | 31 => 23 | 0 => 0 | 9 => 9 | 3 => 3 | 46 => 81 | 51 => 116 | 53 => 103 | 4 => 4 | 183 => 108 | 182 => 107 | 131 => 113 | 5 => 5 | 218 => 118 | 222 => 122 | 228 => 124 | 229 => 125 | n => n, fun | n => n⟩
theorem lays192 : Go.Proofs.Lays.n192 Tryd.prog lays192_ren := {
  mixed := by kernel_rfl
  f125 := Tryd.func33.trans (congrArg some (by kernel_rfl))
  f128 := Tryd.func45.trans (congrArg some (by kernel_rfl))
  f129 := Tryd.func46.trans (congrArg some (by kernel_rfl))
  f190 := Tryd.func26.trans (congrArg some (by kernel_rfl))
  f192 := Tryd.func19.trans (congrArg some (by kernel_rfl))
  f258 := Tryd.func32.trans (congrArg some (by kernel_rfl))
  f302 := Tryd.func36.trans (congrArg some (by kernel_rfl))
  f303 := Tryd.func37.trans (congrArg some (by kernel_rfl))
  f304 := Tryd.func38.trans (congrArg some (by kernel_rfl))
  f305 := Tryd.func39.trans (congrArg some (by kernel_rfl))
  f306 := Tryd.func40.trans (congrArg some (by kernel_rfl))
  f307 := Tryd.func41.trans (congrArg some (by kernel_rfl))
  f308 := Tryd.func42.trans (congrArg some (by kernel_rfl))
  f309 := Tryd.func43.trans (congrArg some (by kernel_rfl))
  f310 := Tryd.func44.trans (congrArg some (by kernel_rfl))
  f329 := Tryd.func48.trans (congrArg some (by kernel_rfl))
  f330 := Tryd.func49.trans (congrArg some (by kernel_rfl))
  f333 := Tryd.func47.trans (congrArg some (by kernel_rfl))
  f334 := Tryd.func50.trans (congrArg some (by kernel_rfl))
  f335 := Tryd.func51.trans (congrArg some (by kernel_rfl))
  f336 := Tryd.func52.trans (congrArg some (by kernel_rfl))
  f344 := Tryd.func53.trans (congrArg some (by kernel_rfl))
  t0 := Tryd.underlying0
  a0 := Tryd.isAgg0
  z0 := Tryd.sizeOf0
  v0 := Tryd.zeroValue0
  t3 := Tryd.underlying3
  a3 := Tryd.isAgg3
  z3 := Tryd.sizeOf3
  v3 := Tryd.zeroValue3
  t4 := Tryd.underlying4
  a4 := Tryd.isAgg4
  z4 := Tryd.sizeOf4
  v4 := Tryd.zeroValue4
  t5 := Tryd.underlying5
  a5 := Tryd.isAgg5
  z5 := Tryd.sizeOf5
  v5 := Tryd.zeroValue5
  t9 := Tryd.underlying9
  a9 := Tryd.isAgg9
  z9 := Tryd.sizeOf9
  v9 := Tryd.zeroValue9
  t31 := Tryd.underlying23
  a31 := Tryd.isAgg23
  z31 := Tryd.sizeOf23
  v31 := Tryd.zeroValue23
  t46 := Tryd.underlying81
  a46 := Tryd.isAgg81
  z46 := Tryd.sizeOf81
  v46 := Tryd.zeroValue81
  t51 := Tryd.underlying116
  a51 := Tryd.isAgg116
  z51 := Tryd.sizeOf116
  v51 := Tryd.zeroValue116
  t53 := Tryd.underlying103
  a53 := Tryd.isAgg103
  z53 := Tryd.sizeOf103
  v53 := Tryd.zeroValue103
  t131 := Tryd.underlying113
  a131 := Tryd.isAgg113
  z131 := Tryd.sizeOf113
  v131 := Tryd.zeroValue113
  t182 := Tryd.underlying107
  a182 := Tryd.isAgg107
  z182 := Tryd.sizeOf107
  v182 := Tryd.zeroValue107
  t183 := Tryd.underlying108
  a183 := Tryd.isAgg108
  z183 := Tryd.sizeOf108
  v183 := Tryd.zeroValue108
  t218 := Tryd.underlying118
  a218 := Tryd.isAgg118
  z218 := Tryd.sizeOf118
  v218 := Tryd.zeroValue118
  t222 := Tryd.underlying122
  a222 := Tryd.isAgg122
  z222 := Tryd.sizeOf122
  v222 := Tryd.zeroValue122
  t228 := Tryd.underlying124
  a228 := Tryd.isAgg124
  z228 := Tryd.sizeOf124
  v228 := Tryd.zeroValue124
  t229 := Tryd.underlying125
  a229 := Tryd.isAgg125
  z229 := Tryd.sizeOf125
  v229 := Tryd.zeroValue125 }

end Go.Proofs.YthmijakellfbiaaDoor
