/- FnSchemaBlank: schemaKey of no namespace at all; the law's own walk. -/
import Derived.Test.YtjclpmgfcaadmaaGreatDoorBlJ
namespace Go.Proofs.YtjclpmgfcaadmaaGreatDoor
open Go.RowKit Go.Shelf

set_option maxRecDepth 100000 in
set_option maxHeartbeats 4000000 in
theorem orderingNone_c (w : World) : Calls Tryz.prog 19 #[.slice none 0 0] w fun e w' => e = .returned (.string ⟨#[]⟩) ∧ w' = w := by
  go_enter Tryz.func19, Tryz.ntmps19
  go_wp2_with fail
  refine wp_loop_once ?_
  go_wp2_with fail
  refine wp_loop_once ?_
  go_wp2_with fail
  go_ret
  exact ⟨rfl, rfl⟩
set_option maxRecDepth 100000 in
theorem schemaKeyNone_c (w : World) : Calls Tryz.prog 8 #[.slice none 0 0] w fun e w' => e = .returned (.string ⟨#[]⟩) ∧ w' = w := by
  go_enter Tryz.func8, Tryz.ntmps8
  go_wp2_with fail
  refine wp_loop_once ?_
  go_wp2_with (go_at_call 19; refine (orderingNone_c _).mono ?_; rintro e w' ⟨rfl, rfl⟩)
  go_ret
  exact ⟨rfl, rfl⟩

set_option maxRecDepth 100000 in
set_option maxHeartbeats 4000000 in
theorem fnBlank_c (s : ByteArray) (w : World) (hT : Tabs w) (hm : s.size ≤ maxLen) : Calls Tryz.prog 4 #[.string s] w fun e w' => e = .returned (.bool true) ∧ Keep NoB w w' := by
  have HP := Lib.hid (proper_c s w hT)
  have HT := Lib.hid hT
  clear hT
  unfold maxLen at hm
  by_cases hb : s.size ≤ 2147483647
  · have h0 : ¬ (2147483647 : Int) < (s.size : Int) := by omega
    go_enter Tryz.func4, Tryz.ntmps4
    go_wp2_with fail
    refine HP.out.mono ?_
    rintro e w1 ⟨⟨b, rfl, hs⟩, k1⟩
    have H1 := Lib.hid (And.intro hs k1)
    clear hs k1
    cases b
    · go_wp2_with fail
      go_ret
      exact ⟨rfl, H1.out.2⟩
    · have hs : s.size ≤ 3000 := H1.out.1 rfl
      go_wp2_with fail
      refine (blank_c s (by omega) w1).mono ?_
      rintro e w2 ⟨⟨r, rfl, hbl⟩, hw⟩
      obtain rfl : w1 = w2 := hw.symm
      have H2 := Lib.hid hbl
      clear hbl hw
      cases r
      · go_wp2_with fail
        go_ret
        exact ⟨rfl, H1.out.2⟩
      · go_wp2_with fail
        go_loopg [3] (s.size + 1) (fun g i wr => ∃ j : Nat, j + g = s.size + 1 ∧ i = .int .i64 j ∧ wr = w1)
        case atStart => exact ⟨0, by omega, rfl, rfl⟩
        case round =>
          obtain ⟨j, hj, rfl, hwr⟩ := hrel
          obtain rfl : w1 = wr := hwr.symm
          clear hwr
          by_cases hlt : j < s.size
          · have h1 : (j : Int) < (s.size : Int) := by omega
            go_wp2_with fail
            · go_ret
              exact ⟨rfl, H1.out.2⟩
            · go_roundg (gk - 1)
              case measure => omega
              case rel => exact ⟨j + 1, by omega, by go_num, rfl⟩
          · have h1 : ¬ (j : Int) < (s.size : Int) := by omega
            go_wp2_with fail
            refine (implParse_c (HT.out.keep H1.out.2) (H2.out (by trivial)) hs).mono ?_
            rintro e w3 ⟨rfl, k3⟩
            have H3 := Lib.hid k3
            clear k3
            go_wp2_with (go_at_call 8; refine (schemaKeyNone_c _).mono ?_; rintro e w' ⟨rfl, rfl⟩)
            go_ret
            exact ⟨rfl, H1.out.2.then H3.out⟩
  · have h0 : (2147483647 : Int) < (s.size : Int) := by omega
    go_enter Tryz.func4, Tryz.ntmps4
    go_wp2_with fail
    go_ret
    exact ⟨rfl, Keep.refl _ _⟩
end Go.Proofs.YtjclpmgfcaadmaaGreatDoor
