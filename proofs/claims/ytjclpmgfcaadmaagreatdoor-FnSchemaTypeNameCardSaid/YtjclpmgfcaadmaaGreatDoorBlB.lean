/- FnSchemaBlank: letters and proper; the lexer: peek, advance. -/
import Derived.Test.YtjclpmgfcaadmaaGreatDoorBlA
import Derived.Test.YtjclpmgfcaadmaaGreatDoorBlLay
import Derived.BigQuiet
namespace Go.Proofs.YtjclpmgfcaadmaaGreatDoor
open Go.RowKit Go.Shelf

theorem Keep.ofBelow {w w' : World} (h : Below w.heap.size w w') : Keep NoB w w' := ⟨h.os, h.tape, h.output, h.size, fun k hk _ => h.block k hk⟩
def Tabs (w : World) : Prop := Lib.Utf8Tabs (Tryz.laysValid_ren.g 3) (Tryz.laysValid_ren.g 4) w
theorem Tabs.keep {w w' : World} (h : Tabs w) (k : Keep NoB w w') : Tabs w' := Utf8Tabs_below h (k.toBelow (Nat.le_refl _) (fun _ _ h => h.elim))

set_option maxRecDepth 100000 in
set_option maxHeartbeats 4000000 in
theorem letters_c (s : ByteArray) (hs : s.size ≤ 100000) (w : World) (hT : Tabs w) : Calls Tryz.prog 20 #[.string s] w fun e w' => (∃ b, e = .returned (.bool b)) ∧ Keep NoB w w' := by
  have cV : ∀ x, x = w → Calls Tryz.prog 44 #[.string s] x (fun e w' => e = .returned (.bool (Lib.validD s.data.toList)) ∧ Below w.heap.size w w') := fun x hx => hx ▸ Any.utf8_ValidString Tryz.laysValid s w (by omega) hT
  generalize Lib.validD s.data.toList = V at cV
  have CV := Lib.hid cV
  clear cV hT
  go_enter Tryz.func20, Tryz.ntmps20
  go_wp2_with fail
  go_loopg [3] (s.size + 1) (fun g i wr => ∃ j : Nat, j + g = s.size + 1 ∧ i = .int .i64 j ∧ wr = w)
  case atStart => exact ⟨0, by omega, rfl, rfl⟩
  case round =>
    obtain ⟨j, hj, rfl, rfl⟩ := hrel
    by_cases hlt : j + 2 < s.size
    · have h1 : (j : Int) + 2 < (s.size : Int) := by omega
      have h2 : (j : Int) + 3 ≤ (s.size : Int) := by omega
      go_wp2_with fail
      · go_ret
        first | exact ⟨⟨_, rfl⟩, Keep.refl _ _⟩ | exact ⟨.inl rfl, Keep.refl _ _⟩
      · go_roundg (gk - 1)
        case measure => omega
        case rel => exact ⟨j + 1, by omega, by go_num, rfl⟩
    · have h1 : ¬ (j : Int) + 2 < (s.size : Int) := by omega
      go_wp2_with fail
      refine (CV.out _ rfl).mono ?_
      rintro e w3 ⟨rfl, k3⟩
      have K3 := Lib.hid k3
      clear k3
      go_wp2_with fail
      go_ret
      exact ⟨⟨_, rfl⟩, Keep.ofBelow K3.out⟩
set_option maxRecDepth 100000 in
set_option maxHeartbeats 4000000 in
theorem proper_c (s : ByteArray) (w : World) (hT : Tabs w) : Calls Tryz.prog 9 #[.string s] w fun e w' => (∃ b, e = .returned (.bool b) ∧ (b = true → s.size ≤ 3000)) ∧ Keep NoB w w' := by
  by_cases hs : s.size ≤ 3000
  · have CL := Lib.hid (letters_c s (by omega) w hT)
    have CR := Lib.hid (fun x => replaced_c s (by omega) x)
    have h0 : ¬ (3000 : Int) < (s.size : Int) := by omega
    clear hT
    go_enter Tryz.func9, Tryz.ntmps9
    go_wp2_with fail
    refine CL.out.mono ?_
    rintro e w1 ⟨⟨b, rfl⟩, k1⟩
    have K1 := Lib.hid k1
    clear k1
    cases b
    · go_wp2_with fail
      go_ret
      first | exact ⟨.inl rfl, K1.out⟩ | exact ⟨⟨_, rfl, fun _ => hs⟩, K1.out⟩
    · go_wp2_with fail
      refine (CR.out _).mono ?_
      rintro e w2 ⟨⟨b, rfl⟩, rfl⟩
      cases b
      · go_wp2_with fail
        go_loopg [3] (s.size + 1) (fun g i wr => ∃ j : Nat, j + g = s.size + 1 ∧ i = .int .i64 j ∧ Keep NoB w wr)
        case atStart => exact ⟨0, by omega, rfl, K1.out⟩
        case round =>
          obtain ⟨j, hj, rfl, hk⟩ := hrel
          have HK := Lib.hid hk
          clear hk
          by_cases hlt : j + 1 < s.size
          · have h1 : (j : Int) + 1 < (s.size : Int) := by omega
            have h2 : (j : Int) < (s.size : Int) := by omega
            go_wp2_with fail
            all_goals first
              | (go_ret; first | exact ⟨.inl rfl, HK.out⟩ | exact ⟨⟨_, rfl, fun _ => hs⟩, HK.out⟩)
              | (go_roundg (gk - 1)
                 case measure => omega
                 case rel => exact ⟨j + 1, by omega, by go_num, HK.out⟩)
          · have h1 : ¬ (j : Int) + 1 < (s.size : Int) := by omega
            go_wp2_with fail
            go_ret
            first | exact ⟨.inr rfl, HK.out⟩ | exact ⟨⟨_, rfl, fun _ => hs⟩, HK.out⟩
      · go_wp2_with fail
        go_ret
        first | exact ⟨.inl rfl, K1.out⟩ | exact ⟨⟨_, rfl, fun _ => hs⟩, K1.out⟩
  · have h0 : (3000 : Int) < (s.size : Int) := by omega
    clear hT
    go_enter Tryz.func9, Tryz.ntmps9
    go_wp2_with fail
    go_ret
    first | exact ⟨.inl rfl, Keep.refl _ _⟩ | exact ⟨⟨_, rfl, fun h => by cases h⟩, Keep.refl _ _⟩
end Go.Proofs.YtjclpmgfcaadmaaGreatDoor
