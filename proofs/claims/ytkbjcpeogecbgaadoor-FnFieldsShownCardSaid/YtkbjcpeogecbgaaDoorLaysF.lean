/-
  The shelf's contracts laid at this dump, in plain words: written by a tool of the kit (lay-plain); facts of the dump, or the kernel's comparison of bodies.
-/
import Derived.Shelf.Unicode.ValidAny
import Derived.Test.YtkbjcpeogecbgaaDoorProg
namespace Go.Proofs.YtkbjcpeogecbgaaDoor
open Go.Shelf
def laysLaysn196_ren : Go.Shelf.Ren := ⟨fun | 196 => 23 | 259 => 31 | n => n, fun | 9 => 9 | 4 => 4 | 3 => 3 | 5 => 5 | 12 => 12 | 119 => 88 | 0 => 0 | 46 => 92 | 139 => 91 | 138 => 90 | 53 => 112 | n => n, fun | 3 => 0 | 4 => 1 | n => n⟩
theorem laysLaysn196 : Go.Proofs.Lays.n196 Tryd.prog laysLaysn196_ren := {
  mixed := by kernel_rfl
  f196 := Tryd.func23.trans (congrArg some (by kernel_rfl))
  f259 := Tryd.func31.trans (congrArg some (by kernel_rfl))
  t0 := Tryd.underlying0
  a0 := Tryd.isAgg0
  z0 := Tryd.sizeOf0
  v0 := Tryd.zeroValue0
  t3 := Tryd.underlying3
  a3 := Tryd.isAgg3
  z3 := Tryd.sizeOf3
  v3 := Tryd.zeroValue3
  t4 := Tryd.underlying4
  a4 := Tryd.isAgg4
  z4 := Tryd.sizeOf4
  v4 := Tryd.zeroValue4
  t5 := Tryd.underlying5
  a5 := Tryd.isAgg5
  z5 := Tryd.sizeOf5
  v5 := Tryd.zeroValue5
  t9 := Tryd.underlying9
  a9 := Tryd.isAgg9
  z9 := Tryd.sizeOf9
  v9 := Tryd.zeroValue9
  t12 := Tryd.underlying12
  a12 := Tryd.isAgg12
  z12 := Tryd.sizeOf12
  v12 := Tryd.zeroValue12
  t46 := Tryd.underlying92
  a46 := Tryd.isAgg92
  z46 := Tryd.sizeOf92
  v46 := Tryd.zeroValue92
  t53 := Tryd.underlying112
  a53 := Tryd.isAgg112
  z53 := Tryd.sizeOf112
  v53 := Tryd.zeroValue112
  t119 := Tryd.underlying88
  a119 := Tryd.isAgg88
  z119 := Tryd.sizeOf88
  t138 := Tryd.underlying90
  a138 := Tryd.isAgg90
  z138 := Tryd.sizeOf90
  v138 := Tryd.zeroValue90
  t139 := Tryd.underlying91
  a139 := Tryd.isAgg91
  z139 := Tryd.sizeOf91
  v139 := Tryd.zeroValue91
  g3 := by kernel_rfl
  g4 := by kernel_rfl }
end Go.Proofs.YtkbjcpeogecbgaaDoor
