/-
  The shelf's layings at this dump, in plain words (written by the kit's lay-plain tool for this program).
-/
import Derived.Ground.NamesProg
import Derived.Shelf.Strings.Prefix
import Derived.Shelf.Strings.Split
import Derived.Test.Qxb6613651aDoorProg
namespace Go.Proofs
open Go.Shelf
def Tryd.lays146_ren : Go.Shelf.Ren := ⟨fun | 146 => 24 | 221 => 30 | 268 => 38 | 138 => 39 | 143 => 40 | 195 => 46 | 197 => 47 | 218 => 48 | 219 => 49 | 260 => 51 | 217 => 52 | 225 => 53 | 224 => 54 | 267 => 55 | 266 => 60 | 314 => 61 | n => n, fun | 9 => 9 | 31 => 22 | 3 => 3 | 4 => 4 | 0 => 0 | 105 => 91 | 21 => 21 | 5 => 5 | 46 => 96 | 119 => 103 | 139 => 106 | 138 => 105 | 146 => 108 | 51 => 107 | n => n, fun | 1 => 1 | 3 => 2 | 4 => 3 | n => n⟩
theorem Tryd.lays146 : Go.Proofs.Lays.n146 Tryd.prog Tryd.lays146_ren := {
  mixed := by kernel_rfl
  f138 := Tryd.func39.trans (congrArg some (by kernel_rfl))
  f143 := Tryd.func40.trans (congrArg some (by kernel_rfl))
  f146 := Tryd.func24.trans (congrArg some (by kernel_rfl))
  f195 := Tryd.func46.trans (congrArg some (by kernel_rfl))
  f197 := Tryd.func47.trans (congrArg some (by kernel_rfl))
  f217 := Tryd.func52.trans (congrArg some (by kernel_rfl))
  f218 := Tryd.func48.trans (congrArg some (by kernel_rfl))
  f219 := Tryd.func49.trans (congrArg some (by kernel_rfl))
  f221 := Tryd.func30.trans (congrArg some (by kernel_rfl))
  f224 := Tryd.func54.trans (congrArg some (by kernel_rfl))
  f225 := Tryd.func53.trans (congrArg some (by kernel_rfl))
  f260 := Tryd.func51.trans (congrArg some (by kernel_rfl))
  f266 := Tryd.func60.trans (congrArg some (by kernel_rfl))
  f267 := Tryd.func55.trans (congrArg some (by kernel_rfl))
  f268 := Tryd.func38.trans (congrArg some (by kernel_rfl))
  f314 := Tryd.func61.trans (congrArg some (by kernel_rfl))
  t0 := Tryd.underlying0
  a0 := Tryd.isAgg0
  z0 := Tryd.sizeOf0
  v0 := Tryd.zeroValue0
  t3 := Tryd.underlying3
  a3 := Tryd.isAgg3
  z3 := Tryd.sizeOf3
  v3 := Tryd.zeroValue3
  t4 := Tryd.underlying4
  a4 := Tryd.isAgg4
  z4 := Tryd.sizeOf4
  v4 := Tryd.zeroValue4
  t5 := Tryd.underlying5
  a5 := Tryd.isAgg5
  z5 := Tryd.sizeOf5
  v5 := Tryd.zeroValue5
  t9 := Tryd.underlying9
  a9 := Tryd.isAgg9
  z9 := Tryd.sizeOf9
  v9 := Tryd.zeroValue9
  t21 := Tryd.underlying21
  a21 := Tryd.isAgg21
  z21 := Tryd.sizeOf21
  v21 := Tryd.zeroValue21
  t31 := Tryd.underlying22
  a31 := Tryd.isAgg22
  z31 := Tryd.sizeOf22
  v31 := Tryd.zeroValue22
  t46 := Tryd.underlying96
  a46 := Tryd.isAgg96
  z46 := Tryd.sizeOf96
  v46 := Tryd.zeroValue96
  t51 := Tryd.underlying107
  a51 := Tryd.isAgg107
  z51 := Tryd.sizeOf107
  v51 := Tryd.zeroValue107
  t105 := Tryd.underlying91
  a105 := Tryd.isAgg91
  z105 := Tryd.sizeOf91
  v105 := Tryd.zeroValue91
  t119 := Tryd.underlying103
  a119 := Tryd.isAgg103
  z119 := Tryd.sizeOf103
  t138 := Tryd.underlying105
  a138 := Tryd.isAgg105
  z138 := Tryd.sizeOf105
  v138 := Tryd.zeroValue105
  t139 := Tryd.underlying106
  a139 := Tryd.isAgg106
  z139 := Tryd.sizeOf106
  v139 := Tryd.zeroValue106
  t146 := Tryd.underlying108
  a146 := Tryd.isAgg108
  z146 := Tryd.sizeOf108
  v146 := Tryd.zeroValue108
  g1 := by kernel_rfl
  g3 := by kernel_rfl
  g4 := by kernel_rfl }
def Tryd.lays102_ren : Go.Shelf.Ren := ⟨fun | 102 => 23 | 209 => 29 | 207 => 37 | n => n, fun | 9 => 9 | 4 => 4 | 3 => 3 | n => n, fun | n => n⟩
theorem Tryd.lays102 : Go.Proofs.Lays.n102 Tryd.prog Tryd.lays102_ren := {
  mixed := by kernel_rfl
  f102 := Tryd.func23.trans (congrArg some (by kernel_rfl))
  f207 := Tryd.func37.trans (congrArg some (by kernel_rfl))
  f209 := Tryd.func29.trans (congrArg some (by kernel_rfl))
  t3 := Tryd.underlying3
  a3 := Tryd.isAgg3
  z3 := Tryd.sizeOf3
  v3 := Tryd.zeroValue3
  t4 := Tryd.underlying4
  a4 := Tryd.isAgg4
  z4 := Tryd.sizeOf4
  v4 := Tryd.zeroValue4
  t9 := Tryd.underlying9
  a9 := Tryd.isAgg9
  z9 := Tryd.sizeOf9
  v9 := Tryd.zeroValue9 }
end Go.Proofs
