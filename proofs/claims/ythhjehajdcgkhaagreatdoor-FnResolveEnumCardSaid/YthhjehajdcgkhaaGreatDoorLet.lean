/- Which texts are letters: utf8.ValidString is met by its contract; the walks of zzFits9 and letters. -/
import Derived.Test.YthhjehajdcgkhaaGreatDoorMap
import Derived.Test.YthhjehajdcgkhaaGreatDoorSpec
import Derived.Test.YthhjehajdcgkhaaGreatDoorVal
import Derived.Test.YthhjehajdcgkhaaGreatDoorIp
namespace Go.Proofs.YthhjehajdcgkhaaGreatDoor
open Go.RowKit Go.Shelf

theorem Keep.ofBelow {w w' : World} (h : Below w.heap.size w w') : Keep NoB w w' := ⟨h.os, h.tape, h.output, h.size, fun k hk _ => h.block k hk⟩
def Tabs (w : World) : Prop := Lib.Utf8Tabs (Tryz.laysValid_ren.g 3) (Tryz.laysValid_ren.g 4) w
theorem Tabs.keep {w w' : World} (h : Tabs w) (k : Keep NoB w w') : Tabs w' := Utf8Tabs_below h (k.toBelow (Nat.le_refl _) (fun _ _ => NoB.not _))

set_option maxRecDepth 100000 in
set_option maxHeartbeats 4000000 in
theorem letters_c (s : Str) (hs : s.size ≤ 1000) (w : World) (hT : Tabs w) : Calls Tryz.prog 14 #[.string s] w fun e w' => (∃ b, e = .returned (.bool b)) ∧ Keep NoB w w' := by
  have cV : ∀ x, x = w → Calls Tryz.prog 35 #[.string s] x (fun e w' => e = .returned (.bool (Lib.validD s.data.toList)) ∧ Below w.heap.size w w') := fun x hx => hx ▸ Any.utf8_ValidString Tryz.laysValid s w (by omega) hT
  generalize Lib.validD s.data.toList = V at cV
  have CV := Lib.hid cV
  clear cV hT
  go_enter Tryz.func14, Tryz.ntmps14
  go_wp2_with fail
  go_loopg [3] (s.size + 1) (fun g i wr => ∃ j : Nat, j + g = s.size + 1 ∧ i = .int .i64 j ∧ wr = w)
  case atStart => exact ⟨0, by omega, rfl, rfl⟩
  case round =>
    obtain ⟨j, hj, rfl, rfl⟩ := hrel
    by_cases hlt : j + 2 < s.size
    · have h1 : (j : Int) + 2 < (s.size : Int) := by omega
      have h2 : (j : Int) + 3 ≤ (s.size : Int) := by omega
      go_wp2_with fail
      · go_ret
        first | exact ⟨⟨_, rfl⟩, Keep.refl _ _⟩ | exact ⟨.inl rfl, Keep.refl _ _⟩
      · go_roundg (gk - 1)
        case measure => omega
        case rel => exact ⟨j + 1, by omega, by go_num, rfl⟩
    · have h1 : ¬ (j : Int) + 2 < (s.size : Int) := by omega
      go_wp2_with fail
      refine (CV.out _ rfl).mono ?_
      rintro e w3 ⟨rfl, k3⟩
      have K3 := Lib.hid k3
      clear k3
      go_wp2_with fail
      go_ret
      exact ⟨⟨_, rfl⟩, Keep.ofBelow K3.out⟩

set_option maxRecDepth 100000 in
set_option maxHeartbeats 4000000 in
theorem fits9_c (M : Nat → Prop) (l : List Str) (o : Option Addr) (n c : Nat) (w : World) (h : StrsAt w M l (.slice o n c)) :
    Calls Tryz.prog 15 #[.slice o n c] w fun e w' => (∃ b, e = .returned (.bool b)) ∧ w' = w := by
  obtain ⟨ov, cc, he, hc⟩ := h
  simp only [Value.slice.injEq] at he
  obtain ⟨rfl, rfl, rfl⟩ := he
  obtain ⟨m, hm⟩ : ∃ m, m = l.length := ⟨_, rfl⟩
  rw [← hm] at hc ⊢
  have HA := Lib.hid (And.intro hm hc)
  clear hm hc
  by_cases hbig : 2147483647 < m
  · have h1 : (2147483647 : Int) < (m : Int) := by omega
    go_enter Tryz.func15, Tryz.ntmps15
    go_wp2_with fail
    go_ret
    first | exact ⟨⟨_, rfl⟩, rfl⟩ | exact ⟨.inl rfl, rfl⟩ | exact ⟨.inr rfl, rfl⟩
  · have h1 : ¬ (2147483647 : Int) < (m : Int) := by omega
    go_enter Tryz.func15, Tryz.ntmps15
    go_wp2_with fail
    go_loopg [4, 10] m (fun g s i wr => ∃ j : Nat, j + g = m ∧ i = .int .i64 j ∧ wr = w)
    case atStart => exact ⟨0, by omega, rfl, rfl⟩
    case round =>
      obtain ⟨j, hj, rfl, rfl⟩ := hrel
      by_cases hlt : j < m
      · obtain ⟨hm, hc⟩ := HA.out
        rcases hc with h0 | ⟨bv, offv, rfl, hMv, hcell⟩
        · omega
        have hcv := (hcell j hlt).2 0 _ rfl
        simp only [Nat.mul_one, Nat.add_zero] at hcv
        generalize l.getD j ⟨#[]⟩ = vj at hcv
        clear hm hMv hcell
        go_wp2_with fail
        · go_ret
          first | exact ⟨⟨_, rfl⟩, rfl⟩ | exact ⟨.inl rfl, rfl⟩ | exact ⟨.inr rfl, rfl⟩
        · go_roundg (gk - 1)
          case measure => omega
          case rel => exact ⟨j + 1, by omega, by go_num, rfl⟩
      · have hjm : j = m := by omega
        subst hjm
        go_wp2_with fail
        go_ret
        first | exact ⟨⟨_, rfl⟩, rfl⟩ | exact ⟨.inl rfl, rfl⟩ | exact ⟨.inr rfl, rfl⟩
end Go.Proofs.YthhjehajdcgkhaaGreatDoor
