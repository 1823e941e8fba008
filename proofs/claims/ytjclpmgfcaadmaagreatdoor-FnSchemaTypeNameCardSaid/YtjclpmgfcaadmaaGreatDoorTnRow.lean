/-
  'laws.FnSchemaTypeName' returns true for every input, and leaves its arguments as they were: a common type is read by each name that is an identifier and no keyword, only not by the names of the language's own types; an entity type is read by each.
  Conditions: the row's own; the listed variables (utf8's two tables) are tied to the program's text by the given tie.
-/
import Derived.Test.YtjclpmgfcaadmaaGreatDoorTnB
import Derived.Test.YtjclpmgfcaadmaaGreatDoorTie
import Derived.Test.YtjclpmgfcaadmaaGreatDoorCards
import Derived.ProofKit
import Derived.OpenShut
import Derived.LaidMore
import Derived.Lay
import Derived.Lib.LaidU8T
import Derived.Stop.Joined
import Derived.SevenTiedAt
namespace Go.Proofs.YtjclpmgfcaadmaaGreatDoor
open Go.ChangeShapes Go.WideShapes Go.ChangeAt Go.RowKit
open Go.ChangeMaps (open_string shut_string)

theorem tnOwn : ownKnob Tryz.prog.godebug = none := by kernel_rfl
theorem tnFirst : Rows.laid_unicode_utf8_first = Lib.firstData := by kernel_rfl
theorem tnAccept : (Rows.laid_unicode_utf8_acceptRanges : DataW Unit) = Lib.acceptData := by kernel_rfl
theorem tnTabs {W : World} (h : laidMetH Tryz.prog Rows.fnSchemaTypeNameRow.laid W) : Tabs W := by
  rw [MakeChecks.laidMetH_plain _ _ _ (by kernel_rfl)] at h
  have h1 : Lib.VarReads Tryz.prog W "unicode/utf8.acceptRanges" Rows.laid_unicode_utf8_acceptRanges := Lib.laidMet.reads h (.head _)
  have h2 : Lib.VarReads Tryz.prog W "unicode/utf8.first" Rows.laid_unicode_utf8_first := Lib.laidMet.reads h (.tail _ (.head _))
  rw [tnAccept] at h1
  rw [tnFirst] at h2
  exact utf8Tabs_of_readsT (Go.Proofs.U8Types.of196 Tryz.laysValid) ⟨by kernel_rfl, by kernel_rfl, by kernel_rfl, by kernel_rfl, by kernel_rfl, by kernel_rfl, by kernel_rfl⟩ h2 h1

set_option maxRecDepth 100000 in
theorem tnLifted (os : Os) (started : os.Started) (H : Type) (enc : TypeId × Value → H) :
    ReturnsInHanded {} Tryz.checked os 3 .any (fun w args => (Rows.fnSchemaTypeNameSpec.pre enc Tryz.prog Tryz.f3 [] false w args ∧ laidMetH Tryz.prog Rows.fnSchemaTypeNameRow.laid w) ∧ sizedMet enc Tryz.prog Tryz.f3 (OpenSpec.ofChange Rows.fnSchemaTypeNameSpec) false w args)
      (Rows.fnSchemaTypeNameSpec.post enc Tryz.prog Tryz.f3 false true false false) := by
  refine returnsInHanded_of_change_and (C := Tryz.checked) (X := fun w _ => laidMetH Tryz.prog Rows.fnSchemaTypeNameRow.laid w) (fun _ _ _ hh h => h.of_heap hh) tnOwn started (by kernel_rfl) Tryz.func3
    (ChangeSpec.witness_shaped (enc := enc) (C := Tryz.checked) (os := os) (X := fun w _ => laidMetH Tryz.prog Rows.fnSchemaTypeNameRow.laid w) false (World.laidAll Tryz.prog os Rows.fnSchemaTypeNameRow.laid) #[.string ⟨#[]⟩, .bool false] 8 (World.laidAll_os _ _ _) (World.shaped_of_ZipB (by kernel_rfl) (by kernel_rfl)) (by kernel_rfl) (by kernel_rfl) (by kernel_rfl)
      (by rw [MakeChecks.laidMetH_plain _ _ _ (by kernel_rfl)]; exact laidMet_laidAll _ (by kernel_rfl) (by kernel_rfl))) ?_
  intro W base args ds gs before hval0 hW _ _ hL _
  have hval : ∀ (j : Nat) t v, Tryz.f3.params[j]? = some t → args[j]? = some v → Value.okWide Tryz.prog W .any base t v := hval0
  have hW' := hW
  obtain ⟨p, q, hA0, hV, rfl, hfz, hnd⟩ := hW
  have hA : DataW.TrodAll enc Tryz.prog W 0 (fun _ => true) true Tryz.f3.params.toList args.toList ds p := hA0
  rw [Tryz.params3] at hA hval
  obtain ⟨v0, v1, d0, d1, p0, p1, rfl, rfl, rfl, h0, h1⟩ := trodAll_two hA
  obtain ⟨rfl, rfl⟩ := trodVars_none hV
  obtain ⟨s, rfl, rfl, rfl, ws⟩ := open_string Tryz.underlying9 (hval 0 9 v0 rfl rfl) h0
  obtain ⟨b, rfl, rfl, rfl⟩ := open_bool Tryz.underlying4 (hval 1 4 v1 rfl rfl) h1
  have hT := tnTabs hL
  clear hA0 hval0 hL
  simp only [List.append_nil] at hW'
  refine (fnTypeName_c s b W hT ws).mono fun e W' ⟨he, hk⟩ => ?_
  subst he
  have hb : Below W.heap.size W W' := hk.toBelow (Nat.le_refl _) (fun _ _ h => h.elim)
  refine ⟨_, rfl, _, _, _, [], [], [], hW', ?_, ?_, ?_, hb.frame _, fun h => by cases h⟩
  · exact trodAll_mk1 (shut_bool Tryz.underlying4 true)
  · exact trodAll_cons_mk (shut_string Tryz.underlying9 ws) (trodAll_cons_mk (shut_bool Tryz.underlying4 b) trodAll_mk0)
  · rfl

theorem fnSchemaTypeName_said : Rows.FnSchemaTypeNameSaid :=
  OpenClaim.holds_of_wide 3 Tryz.f3 rfl rfl rfl rfl rfl rfl rfl ⟨rfl, rfl, rfl, rfl, rfl⟩ rfl rfl rfl rfl rfl (by kernel_rfl) Tryz.func3 (by kernel_rfl)
    (of_decide_eq_true (by kernel_rfl)) (by unfold Func.isWrapper; rw [if_neg (of_decide_eq_false (by kernel_rfl))]; exact ⟨rfl, rfl⟩)
    (fun os started H enc _ => tnLifted os started H enc)

theorem fnSchemaTypeName_holds : Rows.FnSchemaTypeNameCardSaid :=
  Claim7.holds_tied_plain_at .later [] [.data, .pinned] true (true, "c6940c9a975d375aafa154d0185fcc895db7bba33a98e9809780917041914772") true
    fnSchemaTypeName_said (fun _ h => by cases h) (by kernel_rfl) (fun _ h => by cases h) fnSchemaTypeName_row_tie rfl ⟨rfl, rfl⟩ (by kernel_rfl) rfl
    (fun f fn hf hfn => by
      obtain rfl : f = 3 := Option.some.inj ((show Tryz.prog.funcNamed "pub-claviger/laws.FnSchemaTypeName" = some 3 by kernel_rfl).symm.trans hf) |>.symm
      obtain rfl : fn = Tryz.f3 := (Option.some.inj (Tryz.func3.symm.trans hfn)).symm
      exact ⟨by kernel_rfl, fun j t ht => by
        rw [Tryz.params3] at ht
        have hm : t ∈ [9, 4] := by simpa using Array.mem_of_getElem? ht
        have hall : ([9, 4].all fun u => !Tryz.prog.wantsStandIn u) = true := by kernel_rfl
        exact (show Tryz.prog.wantsStandIn t = false by simpa using List.all_eq_true.1 hall t hm)⟩)
    (by kernel_rfl)
#print axioms fnSchemaTypeName_holds
end Go.Proofs.YtjclpmgfcaadmaaGreatDoor
