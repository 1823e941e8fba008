/- Val, Le: joined. -/
import Derived.Ground.NamesProg
import Derived.Shelf.Unicode.ValidAny
import Derived.Test.YtedgonoeeeiilaaGreatDoorProg
import Derived.Test.YtedgonoeeeiilaaGreatDoorJBase
import Derived.Test.YtedgonoeeeiilaaGreatDoorJIr
/-
  DERIVED: THE SHELF's CONTRACTS AT THIS DUMP, IN PLAIN WORDS (tools/lay-plain.mjs out of 'TryzVal.lean', which tools/lay-shelf.mjs wrote): THE SAME DECLARATIONS UNDER THE SAME NAMES: 'import', 'namespace', 'open', 'def', 'theorem' AND NOTHING ELSE: no command of the shelf's: FOR A HAND-IN. Each laying: the table of numbers ('.._ren') and one theorem, a field a fact of the dump's own or the kernel's comparison; each contract: ONE APPLICATION.
-/
namespace Go.Proofs
open Go.Shelf
def Tryz.laysValid_ren : Go.Shelf.Ren := ⟨fun | 196 => 24 | 259 => 45 | n => n, fun | 9 => 9 | 4 => 4 | 3 => 3 | 5 => 5 | 12 => 12 | 119 => 169 | 0 => 0 | 46 => 173 | 139 => 172 | 138 => 171 | 53 => 24 | n => n, fun | 3 => 0 | 4 => 1 | n => n⟩
theorem Tryz.laysValid : Go.Proofs.Lays.n196 Tryz.prog Tryz.laysValid_ren := {
  mixed := by kernel_rfl
  f196 := Tryz.func24.trans (congrArg some (by kernel_rfl))
  f259 := Tryz.func45.trans (congrArg some (by kernel_rfl))
  t0 := Tryz.underlying0
  a0 := Tryz.isAgg0
  z0 := Tryz.sizeOf0
  v0 := Tryz.zeroValue0
  t3 := Tryz.underlying3
  a3 := Tryz.isAgg3
  z3 := Tryz.sizeOf3
  v3 := Tryz.zeroValue3
  t4 := Tryz.underlying4
  a4 := Tryz.isAgg4
  z4 := Tryz.sizeOf4
  v4 := Tryz.zeroValue4
  t5 := Tryz.underlying5
  a5 := Tryz.isAgg5
  z5 := Tryz.sizeOf5
  v5 := Tryz.zeroValue5
  t9 := Tryz.underlying9
  a9 := Tryz.isAgg9
  z9 := Tryz.sizeOf9
  v9 := Tryz.zeroValue9
  t12 := Tryz.underlying12
  a12 := Tryz.isAgg12
  z12 := Tryz.sizeOf12
  v12 := Tryz.zeroValue12
  t46 := Tryz.underlying173
  a46 := Tryz.isAgg173
  z46 := Tryz.sizeOf173
  v46 := Tryz.zeroValue173
  t53 := Tryz.underlying24
  a53 := Tryz.isAgg24
  z53 := Tryz.sizeOf24
  v53 := Tryz.zeroValue24
  t119 := Tryz.underlying169
  a119 := Tryz.isAgg169
  z119 := Tryz.sizeOf169
  t138 := Tryz.underlying171
  a138 := Tryz.isAgg171
  z138 := Tryz.sizeOf171
  v138 := Tryz.zeroValue171
  t139 := Tryz.underlying172
  a139 := Tryz.isAgg172
  z139 := Tryz.sizeOf172
  v139 := Tryz.zeroValue172
  g3 := by kernel_rfl
  g4 := by kernel_rfl }
end Go.Proofs
/- Which texts are letters: utf8.ValidString is met by its contract; the walk of letters. -/
namespace Go.Proofs.YtedgonoeeeiilaaGreatDoor
open Go.RowKit Go.Shelf

theorem Keep.ofBelow {w w' : World} (h : Below w.heap.size w w') : Keep NoB w w' := ⟨h.os, h.tape, h.output, h.size, fun k hk _ => h.block k hk⟩
def Tabs (w : World) : Prop := Lib.Utf8Tabs (Tryz.laysValid_ren.g 3) (Tryz.laysValid_ren.g 4) w
theorem Tabs.keep {w w' : World} (h : Tabs w) (k : Keep NoB w w') : Tabs w' := Utf8Tabs_below h (k.toBelow (Nat.le_refl _) (fun _ _ => NoB.not _))

set_option maxRecDepth 100000 in
set_option maxHeartbeats 4000000 in
theorem letters_c (s : Str) (hs : s.size ≤ 1000) (w : World) (hT : Tabs w) : Calls Tryz.prog 8 #[.string s] w fun e w' => (∃ b, e = .returned (.bool b)) ∧ Keep NoB w w' := by
  have cV : ∀ x, x = w → Calls Tryz.prog 24 #[.string s] x (fun e w' => e = .returned (.bool (Lib.validD s.data.toList)) ∧ Below w.heap.size w w') := fun x hx => hx ▸ Any.utf8_ValidString Tryz.laysValid s w (by omega) hT
  generalize Lib.validD s.data.toList = V at cV
  have CV := Lib.hid cV
  clear cV hT
  go_enter Tryz.func8, Tryz.ntmps8
  go_wp2_with fail
  go_loopg [3] (s.size + 1) (fun g i wr => ∃ j : Nat, j + g = s.size + 1 ∧ i = .int .i64 j ∧ wr = w)
  case atStart => exact ⟨0, by omega, rfl, rfl⟩
  case round =>
    obtain ⟨j, hj, rfl, rfl⟩ := hrel
    by_cases hlt : j + 2 < s.size
    · have h1 : (j : Int) + 2 < (s.size : Int) := by omega
      have h2 : (j : Int) + 3 ≤ (s.size : Int) := by omega
      go_wp2_with fail
      · go_ret
        first | exact ⟨⟨_, rfl⟩, Keep.refl _ _⟩ | exact ⟨.inl rfl, Keep.refl _ _⟩
      · go_roundg (gk - 1)
        case measure => omega
        case rel => exact ⟨j + 1, by omega, by go_num, rfl⟩
    · have h1 : ¬ (j : Int) + 2 < (s.size : Int) := by omega
      go_wp2_with fail
      refine (CV.out _ rfl).mono ?_
      rintro e w3 ⟨rfl, k3⟩
      have K3 := Lib.hid k3
      clear k3
      go_wp2_with fail
      go_ret
      exact ⟨⟨_, rfl⟩, Keep.ofBelow K3.out⟩

end Go.Proofs.YtedgonoeeeiilaaGreatDoor
