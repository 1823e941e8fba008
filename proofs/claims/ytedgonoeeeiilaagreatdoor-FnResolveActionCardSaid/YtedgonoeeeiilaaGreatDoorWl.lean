/- The walks of the wrappers around the resolution of a schema. -/
import Derived.Test.YtedgonoeeeiilaaGreatDoorWk
namespace Go.Proofs.YtedgonoeeeiilaaGreatDoor
open Go.RowKit

theorem newSchema_c (w : World) (a : Addr) : Calls Tryz.prog 32 #[.pointer (some a)] w fun e w' => ∃ b, e = .returned (.pointer (some ⟨b, 0, none⟩)) ∧ w'.cell? ⟨b, 1, none⟩ = some (.pointer (some a)) ∧ Keep NoB w w' := by
  go_enter Tryz.func32, Tryz.ntmps32
  go_wp2_with fail
  go_ret
  refine ⟨_, rfl, ?_, Keep.alloc _ _ _⟩
  rw [cell_cells (MapKept.heap_alloc w _).1]; rfl

theorem astOrEmpty_c (w : World) (b : Nat) (a : Addr) (h : w.cell? ⟨b, 1, none⟩ = some (.pointer (some a))) : Calls Tryz.prog 34 #[.pointer (some ⟨b, 0, none⟩)] w fun e w' => e = .returned (.pointer (some a)) ∧ w' = w := by
  go_enter Tryz.func34, Tryz.ntmps34
  go_wp2_with fail
  go_ret
  exact ⟨rfl, rfl⟩

theorem schResolve_c (w : World) (b b0 : Nat) (h : w.cell? ⟨b, 1, none⟩ = some (.pointer (some ⟨b0, 0, none⟩))) (me mn ma mc ms : Option Nat) (le ln la lc ls : List (Str × Value)) (B : SpD) (D : Str → SpD) (hS : SchIs w NoB b0 me mn ma mc ms le ln la lc ls B D) (fuel : Nat) (hcm : ComOk B D (ls.map (·.1)))
    (hf : ∀ V, EnvIs B D (· ∈ ls.map (·.1)) V → Acyc V → (∀ n ∈ B.en, ∃ x, resEnt V fuel ⟨#[]⟩ n (B.AE n) = some x) ∧ (∀ s ∈ ls.map (·.1), ∀ n ∈ (D s).en, ∃ x, resEnt V fuel s n ((D s).AE n) = some x) ∧
      (∀ n ∈ B.an, ∃ x, resAct V fuel ⟨#[]⟩ n (B.AA n) = some x) ∧ ∀ s ∈ ls.map (·.1), ∀ n ∈ (D s).an, ∃ x, resAct V fuel s n ((D s).AA n) = some x) :
    Calls Tryz.prog 12 #[.pointer (some ⟨b, 0, none⟩)] w fun e w' => ResolveOut B D (ls.map (·.1)) fuel e w' ∧ Keep NoB w w' := by
  have H1 := Lib.hid (astOrEmpty_c w b _ h)
  have H2 := Lib.hid (Resolve_c w b0 me mn ma mc ms le ln la lc ls B D hS fuel hcm hf)
  clear h hS hf
  go_enter Tryz.func12, Tryz.ntmps12
  go_wp2_with fail
  refine H1.out.mono ?_
  rintro e w1 ⟨rfl, hw⟩
  subst hw
  go_wp2_with fail
  refine H2.out.mono ?_
  rintro e w2 ⟨hout, k2⟩
  rcases hout with ⟨⟨a, rfl⟩, hx⟩ | ⟨hx, V, h1, hac, h2, h3, c, oE, oN, oA, RE, RN, RA, rfl, h4⟩
  · have HX := Lib.hid (And.intro hx k2)
    clear hx k2
    go_wp2_with fail
    go_ret2
    exact ⟨.inl ⟨⟨a, rfl⟩, HX.out.1⟩, HX.out.2⟩
  · have HX := Lib.hid (And.intro hx (And.intro h1 (And.intro hac (And.intro h2 (And.intro h3 (And.intro h4 k2))))))
    clear hx h1 hac h2 h3 h4 k2
    go_wp2_with fail
    go_ret2
    obtain ⟨hx, h1, hac, h2, h3, h4, k2⟩ := HX.out
    exact ⟨.inr ⟨hx, V, h1, hac, h2, h3, c, oE, oN, oA, RE, RN, RA, rfl, h4⟩, k2⟩
end Go.Proofs.YtedgonoeeeiilaaGreatDoor
