/-
  'laws.FnResolveGroups' returns true for every input, and leaves its arguments as they were: up to 50 actions, each one with the next one as its group, are resolved with these groups; where the last one has one of them as its group, the schema is refused.
  Conditions: the row's own; the listed variable (mapset.peppercorn) is tied to the program's text by the given tie.
-/
import Derived.Test.YtedgonoeeeiilaaGreatDoorGrW
import Derived.Test.YtedgonoeeeiilaaGreatDoorTie
import Derived.Test.YtedgonoeeeiilaaGreatDoorCards
import Derived.ProofKit
import Derived.OpenShut
import Derived.LaidMore
import Derived.Stop.Joined
import Derived.SevenTiedAt
namespace Go.Proofs.YtedgonoeeeiilaaGreatDoor
open Go.ChangeShapes Go.WideShapes Go.ChangeAt Go.RowKit

theorem grOwn : ownKnob Tryz.prog.godebug = none := by kernel_rfl
theorem grDoor (os : Os) (args : Array Value) : laidMetH Tryz.prog Rows.fnResolveGroupsRow.laid ((World.doorLaid Tryz.prog 400 os).forCall (fun _ _ => 0) ⟨#[], args, []⟩).memory :=
  laidMetH_of_parts3 (fuel := 8) (laidMet_of_run' 8 (by kernel_rfl) (by kernel_rfl)) (by kernel_rfl) (by kernel_rfl)

set_option maxRecDepth 100000 in
theorem grLifted (os : Os) (started : os.Started) (H : Type) (enc : TypeId × Value → H) :
    ReturnsInHanded {} Tryz.checked os 3 .any (fun w args => (Rows.fnResolveGroupsSpec.pre enc Tryz.prog Tryz.f3 [] false w args ∧ laidMetH Tryz.prog Rows.fnResolveGroupsRow.laid w) ∧ sizedMet enc Tryz.prog Tryz.f3 (OpenSpec.ofChange Rows.fnResolveGroupsSpec) false w args)
      (Rows.fnResolveGroupsSpec.post enc Tryz.prog Tryz.f3 false true false false) := by
  refine returnsInHanded_of_change_and (C := Tryz.checked) (X := fun w _ => laidMetH Tryz.prog Rows.fnResolveGroupsRow.laid w) (fun _ _ _ hh h => h.of_heap hh) grOwn started (by kernel_rfl) Tryz.func3
    (ChangeSpec.witness_shaped (enc := enc) (C := Tryz.checked) (os := os) (X := fun w _ => laidMetH Tryz.prog Rows.fnResolveGroupsRow.laid w) false (World.doorLaid Tryz.prog 400 os) #[.int .u8 0, .int .u8 0, .bool false, .bool false] 8 rfl (World.shaped_of_RefB (by kernel_rfl) (by kernel_rfl)) (by kernel_rfl) (by kernel_rfl) (by kernel_rfl) (grDoor os _)) ?_
  intro W base args ds gs before hval0 hW _ _ hL _
  have hval : ∀ (j : Nat) t v, Tryz.f3.params[j]? = some t → args[j]? = some v → Value.okWide Tryz.prog W .any base t v := hval0
  have hW' := hW
  obtain ⟨p, q, hA0, hV, rfl, hfz, hnd⟩ := hW
  have hA : DataW.TrodAll enc Tryz.prog W 0 (fun _ => true) true Tryz.f3.params.toList args.toList ds p := hA0
  rw [Tryz.params3] at hA hval
  obtain ⟨v0, v1, v2, v3, d0, d1, d2, d3, p0, p1, p2, p3, rfl, rfl, rfl, h0, h1, h2, h3⟩ := trodAll_four hA
  obtain ⟨rfl, rfl⟩ := trodVars_none hV
  obtain ⟨a0, rfl, rfl, rfl, w0⟩ := open_int Tryz.underlying5 (hval 0 5 v0 rfl rfl) h0
  obtain ⟨a1, rfl, rfl, rfl, w1⟩ := open_int Tryz.underlying5 (hval 1 5 v1 rfl rfl) h1
  obtain ⟨a2, rfl, rfl, rfl⟩ := open_bool Tryz.underlying4 (hval 2 4 v2 rfl rfl) h2
  obtain ⟨a3, rfl, rfl, rfl⟩ := open_bool Tryz.underlying4 (hval 3 4 v3 rfl rfl) h3
  have b0 := bounds_u8 w0
  have b1 := bounds_u8 w1
  obtain ⟨n0, rfl⟩ := Int.eq_ofNat_of_zero_le b0.1
  obtain ⟨n1, rfl⟩ := Int.eq_ofNat_of_zero_le b1.1
  clear hA0 hval0 hL
  simp only [List.append_nil] at hW'
  refine (groups_c n0 n1 (by omega) (by omega) a2 a3 W).mono fun e W' ⟨he, hk⟩ => ?_
  subst he
  have hb : Below W.heap.size W W' := hk.toBelow (Nat.le_refl _) (fun _ _ => NoB.not _)
  refine ⟨_, rfl, _, _, _, [], [], [], hW', ?_, ?_, ?_, hb.frame _, fun h => by cases h⟩
  · exact trodAll_mk1 (shut_bool Tryz.underlying4 true)
  · exact trodAll_cons_mk (shut_int Tryz.underlying5 w0) (trodAll_cons_mk (shut_int Tryz.underlying5 w1) (trodAll_cons_mk (shut_bool Tryz.underlying4 a2) (trodAll_cons_mk (shut_bool Tryz.underlying4 a3) trodAll_mk0)))
  · rfl

theorem fnResolveGroups_said : Rows.FnResolveGroupsSaid :=
  OpenClaim.holds_of_wide 3 Tryz.f3 rfl rfl rfl rfl rfl rfl rfl ⟨rfl, rfl, rfl, rfl, rfl⟩ rfl rfl rfl rfl rfl (by kernel_rfl) Tryz.func3 (by kernel_rfl)
    (of_decide_eq_true (by kernel_rfl)) (by unfold Func.isWrapper; rw [if_neg (of_decide_eq_false (by kernel_rfl))]; exact ⟨rfl, rfl⟩)
    (fun os started H enc _ => grLifted os started H enc)

theorem fnResolveGroups_holds : Rows.FnResolveGroupsCardSaid :=
  Claim7.holds_tied_plain_at .later [] [.data] true (true, "f09885e815a6c6d7fcd716251bff436599a2bbc85bd3a7af9278684705c0ca0f") true
    fnResolveGroups_said (fun _ h => by cases h) (by kernel_rfl) (fun _ h => by cases h) fnResolveGroups_row_tie rfl ⟨rfl, rfl⟩ (by kernel_rfl) rfl
    (fun f fn hf hfn => by
      obtain rfl : f = 3 := Option.some.inj ((show Tryz.prog.funcNamed "pub-claviger/laws.FnResolveGroups" = some 3 by kernel_rfl).symm.trans hf) |>.symm
      obtain rfl : fn = Tryz.f3 := (Option.some.inj (Tryz.func3.symm.trans hfn)).symm
      exact ⟨by kernel_rfl, fun j t ht => by
        rw [Tryz.params3] at ht
        have hm : t ∈ [5, 5, 4, 4] := by simpa using Array.mem_of_getElem? ht
        have hall : ([5, 5, 4, 4].all fun u => !Tryz.prog.wantsStandIn u) = true := by kernel_rfl
        exact (show Tryz.prog.wantsStandIn t = false by simpa using List.all_eq_true.1 hall t hm)⟩)
    (by kernel_rfl)
#print axioms fnResolveGroups_holds
end Go.Proofs.YtedgonoeeeiilaaGreatDoor
