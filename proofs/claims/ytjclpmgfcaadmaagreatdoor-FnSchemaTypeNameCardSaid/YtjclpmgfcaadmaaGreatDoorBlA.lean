/- FnSchemaBlank: walks of the law's own small functions: blank, replaced, letters, proper. -/
import Derived.Test.YtjclpmgfcaadmaaGreatDoorMap
import Derived.Test.YtjclpmgfcaadmaaGreatDoorBlP
import Derived.Test.YtjclpmgfcaadmaaGreatDoorProg
import Derived.WalkKit
import Derived.WalkSpells
import Derived.WalkLawsBesides
import Derived.Deep.LoopGhost
import Derived.Deep.Light
import Derived.Lib.Hide
import Derived.IntWalk
namespace Go.Proofs.YtjclpmgfcaadmaaGreatDoor
open Go.RowKit

set_option maxRecDepth 100000 in
set_option maxHeartbeats 4000000 in
theorem blank_c (s : ByteArray) (hs : s.size ≤ 100000) (w : World) : Calls Tryz.prog 10 #[.string s] w fun e w' => (∃ r : Bool, e = .returned (.bool r) ∧ (r = true → Bl s 0)) ∧ w' = w := by
  go_enter Tryz.func10, Tryz.ntmps10
  go_wp2_with fail
  go_loopg [3] (s.size + 1) (fun g i wr => ∃ j : Nat, j + g = s.size + 1 ∧ i = .int .i64 j ∧ (Bl s j → Bl s 0) ∧ wr = w)
  case atStart => exact ⟨0, by omega, rfl, fun h => h, rfl⟩
  case round =>
    obtain ⟨j, hj, rfl, hbl, hwr⟩ := hrel
    obtain rfl : w = wr := hwr.symm
    obtain ⟨go, hgo⟩ : ∃ x : Nat, x = gk := ⟨_, rfl⟩
    subst hgo
    have HB := Lib.hid hbl
    clear hbl
    by_cases hlt : j < s.size
    · obtain ⟨c, hc⟩ : ∃ c, (s[j]).toNat = c := ⟨_, rfl⟩
      have HC := Lib.hid (show at8 s j = c from (at8_get hlt).symm.trans hc)
      have h1 : (j : Int) < (s.size : Int) := by omega
      by_cases hcom : c = 47 ∧ ∃ h : j + 1 < s.size, (s[j + 1]'h).toNat = 47
      · obtain ⟨rfl, hlt2, hc2⟩ := hcom
        have h2 : (j : Int) + 1 < (s.size : Int) := by omega
        have HD := Lib.hid (show Cm s j → Bl s 0 from fun h => HB.out (h.bl hlt2 HC.out ((at8_get hlt2).symm.trans hc2)))
        go_wp2_with fail
        go_loopg [3] (s.size - j) (fun g i wx => ∃ q : Nat, j ≤ q ∧ q + g = s.size ∧ i = .int .i64 q ∧ (Cm s q → Bl s 0) ∧ wx = w)
        case atStart => exact ⟨j, by omega, by omega, rfl, HD.out, rfl⟩
        case round =>
          obtain ⟨q, hjq, hq, rfl, hcm, hwr⟩ := hrel
          obtain rfl : w = wr := hwr.symm
          have HM := Lib.hid hcm
          clear hcm hc hc2
          by_cases hqt : q < s.size
          · obtain ⟨d, hd⟩ : ∃ d, (s[q]).toNat = d := ⟨_, rfl⟩
            have HE := Lib.hid (show at8 s q = d from (at8_get hqt).symm.trans hd)
            have h3 : (q : Int) < (s.size : Int) := by omega
            by_cases h10 : d = 10
            · subst h10
              go_wp2_with fail
              go_roundg (go - 1 - (q - j))
              case measure => omega
              case rel => exact ⟨q + 1, by omega, by go_num, fun h => HM.out (.nl q hqt HE.out h), rfl⟩
            · have h4 : ((d : Int) != 10) = true := bne_iff_ne.2 (by omega)
              go_wp2_with fail
              go_roundg (gk - 1)
              case measure => omega
              case rel => exact ⟨q + 1, by omega, by omega, by go_num, fun h => HM.out (.on q hqt (by rw [HE.out]; exact h10) h), rfl⟩
          · have h3 : ¬ (q : Int) < (s.size : Int) := by omega
            go_wp2_with fail
            go_roundg (go - 1 - (q - j))
            case measure => omega
            case rel => exact ⟨q + 1, by omega, by go_num, fun _ => HM.out (.stop q (by omega)), rfl⟩
      · have HN := Lib.hid hcom
        clear hcom
        by_cases hws : isWs c
        · have HW := Lib.hid hws
          rcases hws with rfl | rfl | rfl | rfl <;>
          · go_wp2_with fail
            go_roundg (go - 1)
            case measure => omega
            case rel => exact ⟨j + 1, by omega, by go_num, fun h => HB.out (.ws j hlt (by rw [HC.out]; exact HW.out) h), rfl⟩
        · have h5 : ((c : Int) != 32) = true := bne_iff_ne.2 (fun h => hws (.inl (by omega)))
          have h6 : ((c : Int) != 9) = true := bne_iff_ne.2 (fun h => hws (.inr (.inl (by omega))))
          have h7 : ((c : Int) != 13) = true := bne_iff_ne.2 (fun h => hws (.inr (.inr (.inl (by omega)))))
          have h8 : ((c : Int) != 10) = true := bne_iff_ne.2 (fun h => hws (.inr (.inr (.inr (by omega)))))
          by_cases h47 : c = 47
          · subst h47
            by_cases hlt2 : j + 1 < s.size
            · have h2 : (j : Int) + 1 < (s.size : Int) := by omega
              obtain ⟨d, hd⟩ : ∃ d, (s[j + 1]).toNat = d := ⟨_, rfl⟩
              have h9 : ((d : Int) == 47) = false := beq_false_of_ne (fun h => HN.out ⟨rfl, hlt2, by omega⟩)
              go_wp2_with fail
              go_ret
              exact ⟨.inl rfl, rfl⟩
            · have h2 : ¬ (j : Int) + 1 < (s.size : Int) := by omega
              go_wp2_with fail
              go_ret
              exact ⟨.inl rfl, rfl⟩
          · have h9 : ((c : Int) == 47) = false := beq_false_of_ne (by omega)
            go_wp2_with fail
            go_ret
            exact ⟨.inl rfl, rfl⟩
    · have h1 : ¬ (j : Int) < (s.size : Int) := by omega
      go_wp2_with fail
      go_ret
      exact ⟨.inr ⟨rfl, HB.out (.stop j (by omega))⟩, rfl⟩

set_option maxRecDepth 100000 in
set_option maxHeartbeats 8000000 in
theorem replaced_c (s : ByteArray) (hs : s.size ≤ 100000) (w : World) : Calls Tryz.prog 21 #[.string s] w fun e w' => (∃ r : Bool, e = .returned (.bool r)) ∧ w' = w := by
  go_enter Tryz.func21, Tryz.ntmps21
  go_wp2_with fail
  go_loopg [3] (s.size + 1) (fun g i wr => ∃ j : Nat, j + g = s.size + 1 ∧ i = .int .i64 j ∧ wr = w)
  case atStart => exact ⟨0, by omega, rfl, rfl⟩
  case round =>
    obtain ⟨j, hj, rfl, hwr⟩ := hrel
    obtain rfl : w = wr := hwr.symm
    obtain ⟨go, hgo⟩ : ∃ x : Nat, x = gk := ⟨_, rfl⟩
    subst hgo
    by_cases hlt : j + 3 < s.size
    · have h1 : (j : Int) + 3 < (s.size : Int) := by omega
      have h2 : (j : Int) + 2 < (s.size : Int) := by omega
      have h3 : (j : Int) + 1 < (s.size : Int) := by omega
      have h4 : (j : Int) < (s.size : Int) := by omega
      have hj0 : j < s.size := by omega
      have hj1 : j + 1 < s.size := by omega
      have hj2 : j + 2 < s.size := by omega
      obtain ⟨c0, hc0⟩ : ∃ c, (s[j]).toNat = c := ⟨_, rfl⟩
      obtain ⟨c1, hc1⟩ : ∃ c, (s[j + 1]).toNat = c := ⟨_, rfl⟩
      obtain ⟨c2, hc2⟩ : ∃ c, (s[j + 2]).toNat = c := ⟨_, rfl⟩
      by_cases hall : c0 = 92 ∧ c1 = 117 ∧ c2 = 123
      · obtain ⟨rfl, rfl, rfl⟩ := hall
        go_wp2_with fail
        go_loopg [4, 5] (s.size - (j + 3)) (fun g s4 s5 wx => ∃ (q : Nat) (nn : Int), j + 3 ≤ q ∧ q + g = s.size ∧ s4 = .int .i64 nn ∧ s5 = .int .i64 q ∧ wx = w)
        case atStart => exact ⟨j + 3, 0, by omega, by omega, rfl, by go_num, rfl⟩
        case round =>
          obtain ⟨q, nn, hjq, hq, rfl, rfl, hwr⟩ := hrel
          obtain rfl : w = wr := hwr.symm
          by_cases hqt : q < s.size
          · have h5 : (q : Int) < (s.size : Int) := by omega
            go_wp2_with fail
            all_goals first
              | (go_ret; first | exact ⟨⟨_, rfl⟩, rfl⟩ | exact ⟨.inl rfl, rfl⟩ | exact ⟨.inr rfl, rfl⟩)
              | (go_roundg (gk - 1)
                 case measure => omega
                 case rel => exact ⟨q + 1, _, by omega, by omega, rfl, by go_num, rfl⟩)
              | (go_roundg (go - 1)
                 case measure => omega
                 case rel => exact ⟨j + 1, by omega, by go_num, rfl⟩)
              | (go_roundg (gk - 1)
                 case measure => omega
                 case rel => exact ⟨q + 1, _, by omega, by omega, rfl, by go_num, rfl⟩)
          · have h5 : ¬ (q : Int) < (s.size : Int) := by omega
            go_wp2_with fail
            all_goals first
              | (go_ret; first | exact ⟨⟨_, rfl⟩, rfl⟩ | exact ⟨.inl rfl, rfl⟩ | exact ⟨.inr rfl, rfl⟩)
              | (go_roundg (go - 1)
                 case measure => omega
                 case rel => exact ⟨j + 1, by omega, by go_num, rfl⟩)
      · by_cases h92 : c0 = 92
        · subst h92
          by_cases h117 : c1 = 117
          · subst h117
            have h7 : ((c2 : Int) != 123) = true := bne_iff_ne.2 (fun h => hall ⟨rfl, rfl, by omega⟩)
            go_wp2_with fail
            go_roundg (go - 1)
            case measure => omega
            case rel => exact ⟨j + 1, by omega, by go_num, rfl⟩
          · have h7 : ((c1 : Int) != 117) = true := bne_iff_ne.2 (by omega)
            go_wp2_with fail
            go_roundg (go - 1)
            case measure => omega
            case rel => exact ⟨j + 1, by omega, by go_num, rfl⟩
        · have h7 : ((c0 : Int) != 92) = true := bne_iff_ne.2 (by omega)
          go_wp2_with fail
          go_roundg (go - 1)
          case measure => omega
          case rel => exact ⟨j + 1, by omega, by go_num, rfl⟩
    · have h1 : ¬ (j : Int) + 3 < (s.size : Int) := by omega
      go_wp2_with fail
      go_ret
      first | exact ⟨⟨_, rfl⟩, rfl⟩ | exact ⟨.inl rfl, rfl⟩ | exact ⟨.inr rfl, rfl⟩
end Go.Proofs.YtjclpmgfcaadmaaGreatDoor
