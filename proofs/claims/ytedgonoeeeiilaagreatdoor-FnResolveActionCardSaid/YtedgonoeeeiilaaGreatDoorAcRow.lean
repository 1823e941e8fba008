/-
  'laws.FnResolveAction' returns true for every input, and leaves its arguments as they were: an action of at most 50 bytes of well-formed text that applies to 1 to 5 entity types of its namespace, by their bare or whole names, is resolved to one with their whole names, of the type Action of the namespace, with the empty context.
  Conditions: the row's own; the listed variables are tied to the program's text by the given tie.
-/
import Derived.Test.YtedgonoeeeiilaaGreatDoorAcW
import Derived.Test.YtedgonoeeeiilaaGreatDoorTie
import Derived.Test.YtedgonoeeeiilaaGreatDoorCards
import Derived.ProofKit
import Derived.OpenShut
import Derived.LaidMore
import Derived.Lay
import Derived.Lib.LaidU8T
import Derived.Stop.Joined
import Derived.SevenTiedAt
namespace Go.Proofs.YtedgonoeeeiilaaGreatDoor
open Go.ChangeShapes Go.WideShapes Go.ChangeAt Go.RowKit
open Go.ChangeMaps (open_string shut_string)

theorem acOwn : ownKnob Tryz.prog.godebug = none := by kernel_rfl
theorem acFirst : Rows.laid_unicode_utf8_first = Lib.firstData := by kernel_rfl
theorem acAccept : (Rows.laid_unicode_utf8_acceptRanges : DataW Unit) = Lib.acceptData := by kernel_rfl
theorem acTabs {W : World} (h : laidMetH Tryz.prog Rows.fnResolveActionRow.laid W) : Tabs W := by
  rw [MakeChecks.laidMetH_plain _ _ _ (by kernel_rfl)] at h
  have h1 : Lib.VarReads Tryz.prog W "unicode/utf8.acceptRanges" Rows.laid_unicode_utf8_acceptRanges := Lib.laidMet.reads h (.head _)
  have h2 : Lib.VarReads Tryz.prog W "unicode/utf8.first" Rows.laid_unicode_utf8_first := Lib.laidMet.reads h (.tail _ (.tail _ (.head _)))
  rw [acAccept] at h1
  rw [acFirst] at h2
  exact utf8Tabs_of_readsT (Go.Proofs.U8Types.of196 Tryz.laysValid) ⟨by kernel_rfl, by kernel_rfl, by kernel_rfl, by kernel_rfl, by kernel_rfl, by kernel_rfl, by kernel_rfl⟩ h2 h1

set_option maxRecDepth 100000 in
theorem acLifted (os : Os) (started : os.Started) (H : Type) (enc : TypeId × Value → H) :
    ReturnsInHanded {} Tryz.checked os 4 .any (fun w args => (Rows.fnResolveActionSpec.pre enc Tryz.prog Tryz.f4 [] false w args ∧ laidMetH Tryz.prog Rows.fnResolveActionRow.laid w) ∧ sizedMet enc Tryz.prog Tryz.f4 (OpenSpec.ofChange Rows.fnResolveActionSpec) false w args)
      (Rows.fnResolveActionSpec.post enc Tryz.prog Tryz.f4 false true false false) := by
  refine returnsInHanded_of_change_and (C := Tryz.checked) (X := fun w _ => laidMetH Tryz.prog Rows.fnResolveActionRow.laid w) (fun _ _ _ hh h => h.of_heap hh) acOwn started (by kernel_rfl) Tryz.func4
    (ChangeSpec.witness_shaped (enc := enc) (C := Tryz.checked) (os := os) (X := fun w _ => laidMetH Tryz.prog Rows.fnResolveActionRow.laid w) false (World.laidAll Tryz.prog os Rows.fnResolveActionRow.laid) #[.string ⟨#[]⟩, .bool false, .bool false, .int .u8 0] 8 (World.laidAll_os _ _ _) (World.shaped_of_ZipB (by kernel_rfl) (by kernel_rfl)) (by kernel_rfl) (by kernel_rfl) (by kernel_rfl)
      (by rw [MakeChecks.laidMetH_plain _ _ _ (by kernel_rfl)]; exact laidMet_laidAll _ (by kernel_rfl) (by kernel_rfl))) ?_
  intro W base args ds gs before hval0 hW _ _ hL _
  have hval : ∀ (j : Nat) t v, Tryz.f4.params[j]? = some t → args[j]? = some v → Value.okWide Tryz.prog W .any base t v := hval0
  have hW' := hW
  obtain ⟨p, q, hA0, hV, rfl, hfz, hnd⟩ := hW
  have hA : DataW.TrodAll enc Tryz.prog W 0 (fun _ => true) true Tryz.f4.params.toList args.toList ds p := hA0
  rw [Tryz.params4] at hA hval
  obtain ⟨v0, v1, v2, v3, d0, d1, d2, d3, p0, p1, p2, p3, rfl, rfl, rfl, h0, h1, h2, h3⟩ := trodAll_four hA
  obtain ⟨rfl, rfl⟩ := trodVars_none hV
  obtain ⟨s, rfl, rfl, rfl, ws⟩ := open_string Tryz.underlying9 (hval 0 9 v0 rfl rfl) h0
  obtain ⟨a1, rfl, rfl, rfl⟩ := open_bool Tryz.underlying4 (hval 1 4 v1 rfl rfl) h1
  obtain ⟨a2, rfl, rfl, rfl⟩ := open_bool Tryz.underlying4 (hval 2 4 v2 rfl rfl) h2
  obtain ⟨a3, rfl, rfl, rfl, w3⟩ := open_int Tryz.underlying5 (hval 3 5 v3 rfl rfl) h3
  have b3 := bounds_u8 w3
  obtain ⟨n3, rfl⟩ := Int.eq_ofNat_of_zero_le b3.1
  have hT := acTabs hL
  clear hA0 hval0 hL
  simp only [List.append_nil] at hW'
  refine (action_c s a1 a2 n3 (by omega) ws W hT).mono fun e W' ⟨he, hk⟩ => ?_
  subst he
  have hb : Below W.heap.size W W' := hk.toBelow (Nat.le_refl _) (fun _ _ => NoB.not _)
  refine ⟨_, rfl, _, _, _, [], [], [], hW', ?_, ?_, ?_, hb.frame _, fun h => by cases h⟩
  · exact trodAll_mk1 (shut_bool Tryz.underlying4 true)
  · exact trodAll_cons_mk (shut_string Tryz.underlying9 ws) (trodAll_cons_mk (shut_bool Tryz.underlying4 a1) (trodAll_cons_mk (shut_bool Tryz.underlying4 a2) (trodAll_cons_mk (shut_int Tryz.underlying5 w3) trodAll_mk0)))
  · rfl

theorem fnResolveAction_said : Rows.FnResolveActionSaid :=
  OpenClaim.holds_of_wide 4 Tryz.f4 rfl rfl rfl rfl rfl rfl rfl ⟨rfl, rfl, rfl, rfl, rfl⟩ rfl rfl rfl rfl rfl (by kernel_rfl) Tryz.func4 (by kernel_rfl)
    (of_decide_eq_true (by kernel_rfl)) (by unfold Func.isWrapper; rw [if_neg (of_decide_eq_false (by kernel_rfl))]; exact ⟨rfl, rfl⟩)
    (fun os started H enc _ => acLifted os started H enc)

theorem fnResolveAction_holds : Rows.FnResolveActionCardSaid :=
  Claim7.holds_tied_plain_at .later [] [.data, .data, .pinned] true (true, "f09885e815a6c6d7fcd716251bff436599a2bbc85bd3a7af9278684705c0ca0f") true
    fnResolveAction_said (fun _ h => by cases h) (by kernel_rfl) (fun _ h => by cases h) fnResolveAction_row_tie rfl ⟨rfl, rfl⟩ (by kernel_rfl) rfl
    (fun f fn hf hfn => by
      obtain rfl : f = 4 := Option.some.inj ((show Tryz.prog.funcNamed "pub-claviger/laws.FnResolveAction" = some 4 by kernel_rfl).symm.trans hf) |>.symm
      obtain rfl : fn = Tryz.f4 := (Option.some.inj (Tryz.func4.symm.trans hfn)).symm
      exact ⟨by kernel_rfl, fun j t ht => by
        rw [Tryz.params4] at ht
        have hm : t ∈ [9, 4, 4, 5] := by simpa using Array.mem_of_getElem? ht
        have hall : ([9, 4, 4, 5].all fun u => !Tryz.prog.wantsStandIn u) = true := by kernel_rfl
        exact (show Tryz.prog.wantsStandIn t = false by simpa using List.all_eq_true.1 hall t hm)⟩)
    (by kernel_rfl)
#print axioms fnResolveAction_holds
end Go.Proofs.YtedgonoeeeiilaaGreatDoor
