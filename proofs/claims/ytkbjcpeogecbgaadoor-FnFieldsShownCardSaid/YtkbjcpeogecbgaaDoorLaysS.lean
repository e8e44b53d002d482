/-
  The shelf's contracts laid at this dump, in plain words: written by a tool of the kit (lay-plain); facts of the dump, or the kernel's comparison of bodies.
-/
import Derived.Shelf.Sort.Plain
import Derived.Test.YtkbjcpeogecbgaaDoorProg
namespace Go.Proofs.YtkbjcpeogecbgaaDoor
open Go.Shelf
def laysLaysn192_ren : Go.Shelf.Ren := ⟨fun | 192 => 19 | 190 => 29 | 125 => 36 | 258 => 35 | 128 => 48 | 129 => 49 | 302 => 39 | 303 => 40 | 304 => 41 | 305 => 42 | 306 => 43 | 307 => 44 | 308 => 45 | 309 => 46 | 310 => 47 | 333 => 50 | 329 => 51 | 330 => 52 | 334 => 53 | 335 => 54 | 336 => 55 | 344 => 56 | n => n, fun | 31 => 24 | 0 => 0 | 9 => 9 | 3 => 3 | 46 => 92 | 51 => 124 | 53 => 112 | 4 => 4 | 183 => 116 | 182 => 115 | 131 => 121 | 5 => 5 | 218 => 126 | 222 => 130 | 228 => 132 | 229 => 133 | n => n, fun | n => n⟩
theorem laysLaysn192 : Go.Proofs.Lays.n192 Tryd.prog laysLaysn192_ren := {
  mixed := by kernel_rfl
  f125 := Tryd.func36.trans (congrArg some (by kernel_rfl))
  f128 := Tryd.func48.trans (congrArg some (by kernel_rfl))
  f129 := Tryd.func49.trans (congrArg some (by kernel_rfl))
  f190 := Tryd.func29.trans (congrArg some (by kernel_rfl))
  f192 := Tryd.func19.trans (congrArg some (by kernel_rfl))
  f258 := Tryd.func35.trans (congrArg some (by kernel_rfl))
  f302 := Tryd.func39.trans (congrArg some (by kernel_rfl))
  f303 := Tryd.func40.trans (congrArg some (by kernel_rfl))
  f304 := Tryd.func41.trans (congrArg some (by kernel_rfl))
  f305 := Tryd.func42.trans (congrArg some (by kernel_rfl))
  f306 := Tryd.func43.trans (congrArg some (by kernel_rfl))
  f307 := Tryd.func44.trans (congrArg some (by kernel_rfl))
  f308 := Tryd.func45.trans (congrArg some (by kernel_rfl))
  f309 := Tryd.func46.trans (congrArg some (by kernel_rfl))
  f310 := Tryd.func47.trans (congrArg some (by kernel_rfl))
  f329 := Tryd.func51.trans (congrArg some (by kernel_rfl))
  f330 := Tryd.func52.trans (congrArg some (by kernel_rfl))
  f333 := Tryd.func50.trans (congrArg some (by kernel_rfl))
  f334 := Tryd.func53.trans (congrArg some (by kernel_rfl))
  f335 := Tryd.func54.trans (congrArg some (by kernel_rfl))
  f336 := Tryd.func55.trans (congrArg some (by kernel_rfl))
  f344 := Tryd.func56.trans (congrArg some (by kernel_rfl))
  t0 := Tryd.underlying0
  a0 := Tryd.isAgg0
  z0 := Tryd.sizeOf0
  v0 := Tryd.zeroValue0
  t3 := Tryd.underlying3
  a3 := Tryd.isAgg3
  z3 := Tryd.sizeOf3
  v3 := Tryd.zeroValue3
  t4 := Tryd.underlying4
  a4 := Tryd.isAgg4
  z4 := Tryd.sizeOf4
  v4 := Tryd.zeroValue4
  t5 := Tryd.underlying5
  a5 := Tryd.isAgg5
  z5 := Tryd.sizeOf5
  v5 := Tryd.zeroValue5
  t9 := Tryd.underlying9
  a9 := Tryd.isAgg9
  z9 := Tryd.sizeOf9
  v9 := Tryd.zeroValue9
  t31 := Tryd.underlying24
  a31 := Tryd.isAgg24
  z31 := Tryd.sizeOf24
  v31 := Tryd.zeroValue24
  t46 := Tryd.underlying92
  a46 := Tryd.isAgg92
  z46 := Tryd.sizeOf92
  v46 := Tryd.zeroValue92
  t51 := Tryd.underlying124
  a51 := Tryd.isAgg124
  z51 := Tryd.sizeOf124
  v51 := Tryd.zeroValue124
  t53 := Tryd.underlying112
  a53 := Tryd.isAgg112
  z53 := Tryd.sizeOf112
  v53 := Tryd.zeroValue112
  t131 := Tryd.underlying121
  a131 := Tryd.isAgg121
  z131 := Tryd.sizeOf121
  v131 := Tryd.zeroValue121
  t182 := Tryd.underlying115
  a182 := Tryd.isAgg115
  z182 := Tryd.sizeOf115
  v182 := Tryd.zeroValue115
  t183 := Tryd.underlying116
  a183 := Tryd.isAgg116
  z183 := Tryd.sizeOf116
  v183 := Tryd.zeroValue116
  t218 := Tryd.underlying126
  a218 := Tryd.isAgg126
  z218 := Tryd.sizeOf126
  v218 := Tryd.zeroValue126
  t222 := Tryd.underlying130
  a222 := Tryd.isAgg130
  z222 := Tryd.sizeOf130
  v222 := Tryd.zeroValue130
  t228 := Tryd.underlying132
  a228 := Tryd.isAgg132
  z228 := Tryd.sizeOf132
  v228 := Tryd.zeroValue132
  t229 := Tryd.underlying133
  a229 := Tryd.isAgg133
  z229 := Tryd.sizeOf133
  v229 := Tryd.zeroValue133 }
end Go.Proofs.YtkbjcpeogecbgaaDoor
