/-
  DERIVED: THE SHELF's CONTRACTS AT THIS DUMP, IN PLAIN WORDS (tools/lay-plain.mjs out of 'TryzBl7.lean', which tools/lay-shelf.mjs wrote): THE SAME DECLARATIONS UNDER THE SAME NAMES: 'import', 'namespace', 'open', 'def', 'theorem' AND NOTHING ELSE: no command of the shelf's: FOR A HAND-IN. Each laying: the table of numbers ('.._ren') and one theorem, a field a fact of the dump's own or the kernel's comparison; each contract: ONE APPLICATION.
-/
import Derived.Ground.NamesProg
import Derived.Ground.Names7Prog
import Derived.Shelf.Lays7
import Derived.Shelf.Unicode.ValidAny
import Derived.Shelf.Spec.DecodeRune
import Derived.Shelf.Small.Bits
import Derived.Test.YtjclpmgfcaadmaaGreatDoorProg
namespace Go.Proofs
open Go.Shelf
def Tryz.laysValid_ren : Go.Shelf.Ren := ⟨fun | 196 => 44 | 259 => 62 | n => n, fun | 9 => 9 | 4 => 4 | 3 => 3 | 5 => 5 | 12 => 12 | 119 => 174 | 0 => 0 | 46 => 169 | 139 => 177 | 138 => 176 | 53 => 172 | n => n, fun | 3 => 0 | 4 => 1 | n => n⟩
theorem Tryz.laysValid : Go.Proofs.Lays.n196 Tryz.prog Tryz.laysValid_ren := {
  mixed := by kernel_rfl
  f196 := Tryz.func44.trans (congrArg some (by kernel_rfl))
  f259 := Tryz.func62.trans (congrArg some (by kernel_rfl))
  t0 := Tryz.underlying0
  a0 := Tryz.isAgg0
  z0 := Tryz.sizeOf0
  v0 := Tryz.zeroValue0
  t3 := Tryz.underlying3
  a3 := Tryz.isAgg3
  z3 := Tryz.sizeOf3
  v3 := Tryz.zeroValue3
  t4 := Tryz.underlying4
  a4 := Tryz.isAgg4
  z4 := Tryz.sizeOf4
  v4 := Tryz.zeroValue4
  t5 := Tryz.underlying5
  a5 := Tryz.isAgg5
  z5 := Tryz.sizeOf5
  v5 := Tryz.zeroValue5
  t9 := Tryz.underlying9
  a9 := Tryz.isAgg9
  z9 := Tryz.sizeOf9
  v9 := Tryz.zeroValue9
  t12 := Tryz.underlying12
  a12 := Tryz.isAgg12
  z12 := Tryz.sizeOf12
  v12 := Tryz.zeroValue12
  t46 := Tryz.underlying169
  a46 := Tryz.isAgg169
  z46 := Tryz.sizeOf169
  v46 := Tryz.zeroValue169
  t53 := Tryz.underlying172
  a53 := Tryz.isAgg172
  z53 := Tryz.sizeOf172
  v53 := Tryz.zeroValue172
  t119 := Tryz.underlying174
  a119 := Tryz.isAgg174
  z119 := Tryz.sizeOf174
  t138 := Tryz.underlying176
  a138 := Tryz.isAgg176
  z138 := Tryz.sizeOf176
  v138 := Tryz.zeroValue176
  t139 := Tryz.underlying177
  a139 := Tryz.isAgg177
  z139 := Tryz.sizeOf177
  v139 := Tryz.zeroValue177
  g3 := by kernel_rfl
  g4 := by kernel_rfl }
def Tryz.laysDecode_ren : Go.Shelf.Ren := ⟨fun | 32 => 126 | 49 => 151 | n => n, fun | 30 => 50 | 21 => 21 | 3 => 3 | 0 => 0 | 5 => 5 | 4 => 4 | 33 => 241 | 66 => 174 | 25 => 169 | 69 => 177 | 68 => 176 | n => n, fun | 2 => 0 | 3 => 1 | n => n⟩
theorem Tryz.laysDecode : Go.Proofs.Lays7.n32 Tryz.prog Tryz.laysDecode_ren := {
  mixed := by kernel_rfl
  f32 := Tryz.func126.trans (congrArg some (by kernel_rfl))
  f49 := Tryz.func151.trans (congrArg some (by kernel_rfl))
  t0 := Tryz.underlying0
  a0 := Tryz.isAgg0
  z0 := Tryz.sizeOf0
  v0 := Tryz.zeroValue0
  i0 := by kernel_rfl
  t3 := Tryz.underlying3
  a3 := Tryz.isAgg3
  z3 := Tryz.sizeOf3
  v3 := Tryz.zeroValue3
  i3 := by kernel_rfl
  t4 := Tryz.underlying4
  a4 := Tryz.isAgg4
  z4 := Tryz.sizeOf4
  v4 := Tryz.zeroValue4
  i4 := by kernel_rfl
  t5 := Tryz.underlying5
  a5 := Tryz.isAgg5
  z5 := Tryz.sizeOf5
  v5 := Tryz.zeroValue5
  i5 := by kernel_rfl
  t21 := Tryz.underlying21
  a21 := Tryz.isAgg21
  z21 := Tryz.sizeOf21
  v21 := Tryz.zeroValue21
  i21 := by kernel_rfl
  t25 := Tryz.underlying169
  a25 := Tryz.isAgg169
  z25 := Tryz.sizeOf169
  v25 := Tryz.zeroValue169
  i25 := by kernel_rfl
  t30 := Tryz.underlying50
  a30 := Tryz.isAgg50
  z30 := Tryz.sizeOf50
  v30 := Tryz.zeroValue50
  i30 := by kernel_rfl
  t33 := Tryz.underlying241
  a33 := Tryz.isAgg241
  z33 := Tryz.sizeOf241
  v33 := Tryz.zeroValue241
  i33 := by kernel_rfl
  t66 := Tryz.underlying174
  a66 := Tryz.isAgg174
  z66 := Tryz.sizeOf174
  t68 := Tryz.underlying176
  a68 := Tryz.isAgg176
  z68 := Tryz.sizeOf176
  v68 := Tryz.zeroValue176
  i68 := by kernel_rfl
  t69 := Tryz.underlying177
  a69 := Tryz.isAgg177
  z69 := Tryz.sizeOf177
  v69 := Tryz.zeroValue177
  i69 := by kernel_rfl
  g2 := by kernel_rfl
  g3 := by kernel_rfl }
def Tryz.lays125_ren : Go.Shelf.Ren := ⟨fun | 125 => 59 | 128 => 82 | 129 => 83 | n => n, fun | 46 => 169 | 3 => 3 | 51 => 205 | 53 => 172 | 4 => 4 | 5 => 5 | 9 => 9 | n => n, fun | n => n⟩
theorem Tryz.lays125 : Go.Proofs.Lays.n125 Tryz.prog Tryz.lays125_ren := {
  mixed := by kernel_rfl
  f125 := Tryz.func59.trans (congrArg some (by kernel_rfl))
  f128 := Tryz.func82.trans (congrArg some (by kernel_rfl))
  f129 := Tryz.func83.trans (congrArg some (by kernel_rfl))
  t3 := Tryz.underlying3
  a3 := Tryz.isAgg3
  z3 := Tryz.sizeOf3
  v3 := Tryz.zeroValue3
  t4 := Tryz.underlying4
  a4 := Tryz.isAgg4
  z4 := Tryz.sizeOf4
  v4 := Tryz.zeroValue4
  t5 := Tryz.underlying5
  a5 := Tryz.isAgg5
  z5 := Tryz.sizeOf5
  v5 := Tryz.zeroValue5
  t9 := Tryz.underlying9
  a9 := Tryz.isAgg9
  z9 := Tryz.sizeOf9
  v9 := Tryz.zeroValue9
  t46 := Tryz.underlying169
  a46 := Tryz.isAgg169
  z46 := Tryz.sizeOf169
  v46 := Tryz.zeroValue169
  t51 := Tryz.underlying205
  a51 := Tryz.isAgg205
  z51 := Tryz.sizeOf205
  v51 := Tryz.zeroValue205
  t53 := Tryz.underlying172
  a53 := Tryz.isAgg172
  z53 := Tryz.sizeOf172
  v53 := Tryz.zeroValue172 }
open Go.RowKit in
/-- bits.Len: "Len returns the minimum number of bits required to represent x; the result is 0 for x == 0.": IT RETURNS 'Lib.bitLen x'; the world is as it was. (A uint has 64 bits in the model.) ITS CALLEE bits.Len64 IS MET BY ITS OWN CONTRACT OFF THE SHELF (lay that first). (LAID: no walk: one application.) -/
theorem Tryz.bits_Len (x : Int) (w : World) (h0 : 0 ≤ x) (h1 : x ≤ 18446744073709551615) :
    Calls Tryz.prog 59 #[.int .u64 x] w fun e w' => e = .returned (.int .i64 (Lib.bitLen x.toNat)) ∧ w' = w := Any.bits_Len Tryz.lays125 x w h0 h1
end Go.Proofs
