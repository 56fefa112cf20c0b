/-
  Layings of the library's contracts at this program (written by the kit's lay-plain, taken over by a program). Conditions: none.
-/
import Derived.Shelf.Sort.Plain
import Derived.Shelf.Slices.In.SortNone2
import Derived.Test.YtppmdncmjcknkaaRows
namespace Go.Proofs.Ytppmdncmjcknkaa
open Go.Shelf

def lays192_ren : Go.Shelf.Ren := ⟨fun | 192 => 17 | 190 => 25 | 125 => 32 | 258 => 31 | 128 => 46 | 129 => 47 | 302 => 37 | 303 => 38 | 304 => 39 | 305 => 40 | 306 => 41 | 307 => 42 | 308 => 43 | 309 => 44 | 310 => 45 | 333 => 50 | 329 => 51 | 330 => 52 | 334 => 53 | 335 => 54 | 336 => 55 | 344 => 57 | n => n, fun | 31 => 22 | 0 => 0 | 9 => 9 | 3 => 3 | 46 => 117 | 51 => 133 | 53 => 135 | 4 => 4 | 183 => 125 | 182 => 124 | 131 => 130 | 5 => 5 | 218 => 141 | 222 => 145 | 228 => 157 | 229 => 158 | n => n, fun | n => n⟩
theorem lays192 : Go.Proofs.Lays.n192 Try.prog lays192_ren := {
  mixed := by kernel_rfl
  f125 := Try.func32.trans (congrArg some (by kernel_rfl))
  f128 := Try.func46.trans (congrArg some (by kernel_rfl))
  f129 := Try.func47.trans (congrArg some (by kernel_rfl))
  f190 := Try.func25.trans (congrArg some (by kernel_rfl))
  f192 := Try.func17.trans (congrArg some (by kernel_rfl))
  f258 := Try.func31.trans (congrArg some (by kernel_rfl))
  f302 := Try.func37.trans (congrArg some (by kernel_rfl))
  f303 := Try.func38.trans (congrArg some (by kernel_rfl))
  f304 := Try.func39.trans (congrArg some (by kernel_rfl))
  f305 := Try.func40.trans (congrArg some (by kernel_rfl))
  f306 := Try.func41.trans (congrArg some (by kernel_rfl))
  f307 := Try.func42.trans (congrArg some (by kernel_rfl))
  f308 := Try.func43.trans (congrArg some (by kernel_rfl))
  f309 := Try.func44.trans (congrArg some (by kernel_rfl))
  f310 := Try.func45.trans (congrArg some (by kernel_rfl))
  f329 := Try.func51.trans (congrArg some (by kernel_rfl))
  f330 := Try.func52.trans (congrArg some (by kernel_rfl))
  f333 := Try.func50.trans (congrArg some (by kernel_rfl))
  f334 := Try.func53.trans (congrArg some (by kernel_rfl))
  f335 := Try.func54.trans (congrArg some (by kernel_rfl))
  f336 := Try.func55.trans (congrArg some (by kernel_rfl))
  f344 := Try.func57.trans (congrArg some (by kernel_rfl))
  t0 := Try.underlying0
  a0 := Try.isAgg0
  z0 := Try.sizeOf0
  v0 := Try.zeroValue0
  t3 := Try.underlying3
  a3 := Try.isAgg3
  z3 := Try.sizeOf3
  v3 := Try.zeroValue3
  t4 := Try.underlying4
  a4 := Try.isAgg4
  z4 := Try.sizeOf4
  v4 := Try.zeroValue4
  t5 := Try.underlying5
  a5 := Try.isAgg5
  z5 := Try.sizeOf5
  v5 := Try.zeroValue5
  t9 := Try.underlying9
  a9 := Try.isAgg9
  z9 := Try.sizeOf9
  v9 := Try.zeroValue9
  t31 := Try.underlying22
  a31 := Try.isAgg22
  z31 := Try.sizeOf22
  v31 := Try.zeroValue22
  t46 := Try.underlying117
  a46 := Try.isAgg117
  z46 := Try.sizeOf117
  v46 := Try.zeroValue117
  t51 := Try.underlying133
  a51 := Try.isAgg133
  z51 := Try.sizeOf133
  v51 := Try.zeroValue133
  t53 := Try.underlying135
  a53 := Try.isAgg135
  z53 := Try.sizeOf135
  v53 := Try.zeroValue135
  t131 := Try.underlying130
  a131 := Try.isAgg130
  z131 := Try.sizeOf130
  v131 := Try.zeroValue130
  t182 := Try.underlying124
  a182 := Try.isAgg124
  z182 := Try.sizeOf124
  v182 := Try.zeroValue124
  t183 := Try.underlying125
  a183 := Try.isAgg125
  z183 := Try.sizeOf125
  v183 := Try.zeroValue125
  t218 := Try.underlying141
  a218 := Try.isAgg141
  z218 := Try.sizeOf141
  v218 := Try.zeroValue141
  t222 := Try.underlying145
  a222 := Try.isAgg145
  z222 := Try.sizeOf145
  v222 := Try.zeroValue145
  t228 := Try.underlying157
  a228 := Try.isAgg157
  z228 := Try.sizeOf157
  v228 := Try.zeroValue157
  t229 := Try.underlying158
  a229 := Try.isAgg158
  z229 := Try.sizeOf158
  v229 := Try.zeroValue158 }

end Go.Proofs.Ytppmdncmjcknkaa
