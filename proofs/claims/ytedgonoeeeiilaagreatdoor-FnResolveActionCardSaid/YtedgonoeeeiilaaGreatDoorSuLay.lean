/-
  DERIVED: THE SHELF's CONTRACTS AT THIS DUMP, IN PLAIN WORDS (tools/lay-plain.mjs out of 'YtedgonoeeeiilaaGreatDoorSuTry.lean', which tools/lay-shelf.mjs wrote): THE SAME DECLARATIONS UNDER THE SAME NAMES: 'import', 'namespace', 'open', 'def', 'theorem' AND NOTHING ELSE: no command of the shelf's: FOR A HAND-IN. Each laying: the table of numbers ('.._ren') and one theorem, a field a fact of the dump's own or the kernel's comparison; each contract: ONE APPLICATION.
-/
import Derived.Test.YtedgonoeeeiilaaGreatDoorProg
import Derived.Shelf.SlSortCmp.NoneTotal
import Derived.Ground.SlsfProg
namespace Go.Proofs
open Go.Shelf
set_option maxRecDepth 100000 in
def Tryz.sortU_ren : Go.Shelf.Ren := ⟨fun | 6 => 42 | 15 => 60 | 14 => 65 | 28 => 99 | 29 => 100 | 20 => 103 | 21 => 104 | 22 => 105 | 23 => 106 | 24 => 107 | 25 => 108 | 26 => 109 | 27 => 110 | 46 => 130 | 47 => 116 | 48 => 117 | 49 => 131 | 50 => 132 | 57 => 144 | n => n, fun | 22 => 89 | 24 => 96 | 25 => 112 | 3 => 3 | 39 => 173 | 0 => 0 | 53 => 285 | 55 => 24 | 4 => 4 | 46 => 277 | 45 => 276 | 50 => 282 | 5 => 5 | 9 => 9 | 66 => 301 | 70 => 305 | 76 => 320 | 77 => 321 | n => n, fun | n => n⟩
set_option maxRecDepth 100000 in
theorem Tryz.sortU : Go.Proofs.SlLaysF0.n6 Tryz.prog Tryz.sortU_ren := {
  mixed := by kernel_rfl
  f6 := ⟨Tryz.f42.name, by decide, Tryz.func42.trans (congrArg some (by kernel_rfl))⟩
  f14 := ⟨Tryz.f65.name, by decide, Tryz.func65.trans (congrArg some (by kernel_rfl))⟩
  f15 := Tryz.func60.trans (congrArg some (by kernel_rfl))
  f20 := ⟨Tryz.f103.name, by decide, Tryz.func103.trans (congrArg some (by kernel_rfl))⟩
  f21 := ⟨Tryz.f104.name, by decide, Tryz.func104.trans (congrArg some (by kernel_rfl))⟩
  f22 := ⟨Tryz.f105.name, by decide, Tryz.func105.trans (congrArg some (by kernel_rfl))⟩
  f23 := ⟨Tryz.f106.name, by decide, Tryz.func106.trans (congrArg some (by kernel_rfl))⟩
  f24 := ⟨Tryz.f107.name, by decide, Tryz.func107.trans (congrArg some (by kernel_rfl))⟩
  f25 := ⟨Tryz.f108.name, by decide, Tryz.func108.trans (congrArg some (by kernel_rfl))⟩
  f26 := ⟨Tryz.f109.name, by decide, Tryz.func109.trans (congrArg some (by kernel_rfl))⟩
  f27 := ⟨Tryz.f110.name, by decide, Tryz.func110.trans (congrArg some (by kernel_rfl))⟩
  f28 := Tryz.func99.trans (congrArg some (by kernel_rfl))
  f29 := Tryz.func100.trans (congrArg some (by kernel_rfl))
  f46 := ⟨Tryz.f130.name, by decide, Tryz.func130.trans (congrArg some (by kernel_rfl))⟩
  f47 := Tryz.func116.trans (congrArg some (by kernel_rfl))
  f48 := Tryz.func117.trans (congrArg some (by kernel_rfl))
  f49 := ⟨Tryz.f131.name, by decide, Tryz.func131.trans (congrArg some (by kernel_rfl))⟩
  f50 := ⟨Tryz.f132.name, by decide, Tryz.func132.trans (congrArg some (by kernel_rfl))⟩
  f57 := ⟨Tryz.f144.name, by decide, Tryz.func144.trans (congrArg some (by kernel_rfl))⟩
  t0 := Tryz.underlying0
  a0 := Tryz.isAgg0
  z0 := Tryz.sizeOf0
  v0 := Tryz.zeroValue0
  t3 := Tryz.underlying3
  a3 := Tryz.isAgg3
  z3 := Tryz.sizeOf3
  v3 := Tryz.zeroValue3
  t4 := Tryz.underlying4
  a4 := Tryz.isAgg4
  z4 := Tryz.sizeOf4
  v4 := Tryz.zeroValue4
  t5 := Tryz.underlying5
  a5 := Tryz.isAgg5
  z5 := Tryz.sizeOf5
  v5 := Tryz.zeroValue5
  t9 := Tryz.underlying9
  a9 := Tryz.isAgg9
  z9 := Tryz.sizeOf9
  v9 := Tryz.zeroValue9
  t22 := Tryz.underlying89
  a22 := Tryz.isAgg89
  z22 := Tryz.sizeOf89
  v22 := Tryz.zeroValue89
  t25 := Tryz.underlying112
  a25 := Tryz.isAgg112
  z25 := Tryz.sizeOf112
  v25 := Tryz.zeroValue112
  t39 := Tryz.underlying173
  a39 := Tryz.isAgg173
  z39 := Tryz.sizeOf173
  v39 := Tryz.zeroValue173
  t45 := Tryz.underlying276
  a45 := Tryz.isAgg276
  z45 := Tryz.sizeOf276
  v45 := Tryz.zeroValue276
  t46 := Tryz.underlying277
  a46 := Tryz.isAgg277
  z46 := Tryz.sizeOf277
  v46 := Tryz.zeroValue277
  t50 := Tryz.underlying282
  a50 := Tryz.isAgg282
  z50 := Tryz.sizeOf282
  v50 := Tryz.zeroValue282
  t53 := Tryz.underlying285
  a53 := Tryz.isAgg285
  z53 := Tryz.sizeOf285
  v53 := Tryz.zeroValue285
  t55 := Tryz.underlying24
  a55 := Tryz.isAgg24
  z55 := Tryz.sizeOf24
  v55 := Tryz.zeroValue24
  t66 := Tryz.underlying301
  a66 := Tryz.isAgg301
  z66 := Tryz.sizeOf301
  v66 := Tryz.zeroValue301
  t70 := Tryz.underlying305
  a70 := Tryz.isAgg305
  z70 := Tryz.sizeOf305
  v70 := Tryz.zeroValue305
  t76 := Tryz.underlying320
  a76 := Tryz.isAgg320
  z76 := Tryz.sizeOf320
  v76 := Tryz.zeroValue320
  t77 := Tryz.underlying321
  a77 := Tryz.isAgg321
  z77 := Tryz.sizeOf321
  v77 := Tryz.zeroValue321 }
end Go.Proofs
