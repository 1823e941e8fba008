/-
  'laws.FnSchemaBlank' returns true for every input, and leaves its argument as it was: a text of blanks and remarks alone, of at most 3000 bytes, well-formed and without a NUL, is read as a schema without namespaces.
  Conditions: the row's own; the listed variables (utf8's two tables) are tied to the program's text by the given tie.
-/
import Derived.Test.YtjclpmgfcaadmaaGreatDoorBlK
import Derived.Test.YtjclpmgfcaadmaaGreatDoorTie
import Derived.Test.YtjclpmgfcaadmaaGreatDoorCards
import Derived.ProofKit
import Derived.OpenShut
import Derived.LaidMore
import Derived.Lay
import Derived.Lib.LaidU8T
import Derived.Stop.Joined
import Derived.SevenTiedAt
namespace Go.Proofs.YtjclpmgfcaadmaaGreatDoor
open Go.ChangeShapes Go.WideShapes Go.ChangeAt Go.RowKit
open Go.ChangeMaps (open_string shut_string)

theorem blOwn : ownKnob Tryz.prog.godebug = none := by kernel_rfl
theorem blFirst : Rows.laid_unicode_utf8_first = Lib.firstData := by kernel_rfl
theorem blAccept : (Rows.laid_unicode_utf8_acceptRanges : DataW Unit) = Lib.acceptData := by kernel_rfl
theorem blTabs {W : World} (h : laidMetH Tryz.prog Rows.fnSchemaBlankRow.laid W) : Tabs W := by
  rw [MakeChecks.laidMetH_plain _ _ _ (by kernel_rfl)] at h
  have h1 : Lib.VarReads Tryz.prog W "unicode/utf8.acceptRanges" Rows.laid_unicode_utf8_acceptRanges := Lib.laidMet.reads h (.head _)
  have h2 : Lib.VarReads Tryz.prog W "unicode/utf8.first" Rows.laid_unicode_utf8_first := Lib.laidMet.reads h (.tail _ (.head _))
  rw [blAccept] at h1
  rw [blFirst] at h2
  exact utf8Tabs_of_readsT (Go.Proofs.U8Types.of196 Tryz.laysValid) ⟨by kernel_rfl, by kernel_rfl, by kernel_rfl, by kernel_rfl, by kernel_rfl, by kernel_rfl, by kernel_rfl⟩ h2 h1

set_option maxRecDepth 100000 in
theorem blLifted (os : Os) (started : os.Started) (H : Type) (enc : TypeId × Value → H) :
    ReturnsInHanded {} Tryz.checked os 4 .any (fun w args => (Rows.fnSchemaBlankSpec.pre enc Tryz.prog Tryz.f4 [] false w args ∧ laidMetH Tryz.prog Rows.fnSchemaBlankRow.laid w) ∧ sizedMet enc Tryz.prog Tryz.f4 (OpenSpec.ofChange Rows.fnSchemaBlankSpec) false w args)
      (Rows.fnSchemaBlankSpec.post enc Tryz.prog Tryz.f4 false true false false) := by
  refine returnsInHanded_of_change_and (C := Tryz.checked) (X := fun w _ => laidMetH Tryz.prog Rows.fnSchemaBlankRow.laid w) (fun _ _ _ hh h => h.of_heap hh) blOwn started (by kernel_rfl) Tryz.func4
    (ChangeSpec.witness_shaped (enc := enc) (C := Tryz.checked) (os := os) (X := fun w _ => laidMetH Tryz.prog Rows.fnSchemaBlankRow.laid w) false (World.laidAll Tryz.prog os Rows.fnSchemaBlankRow.laid) #[.string ⟨#[]⟩] 8 (World.laidAll_os _ _ _) (World.shaped_of_ZipB (by kernel_rfl) (by kernel_rfl)) (by kernel_rfl) (by kernel_rfl) (by kernel_rfl)
      (by rw [MakeChecks.laidMetH_plain _ _ _ (by kernel_rfl)]; exact laidMet_laidAll _ (by kernel_rfl) (by kernel_rfl))) ?_
  intro W base args ds gs before hval0 hW _ _ hL _
  have hval : ∀ (j : Nat) t v, Tryz.f4.params[j]? = some t → args[j]? = some v → Value.okWide Tryz.prog W .any base t v := hval0
  have hW' := hW
  obtain ⟨p, q, hA0, hV, rfl, hfz, hnd⟩ := hW
  have hA : DataW.TrodAll enc Tryz.prog W 0 (fun _ => true) true Tryz.f4.params.toList args.toList ds p := hA0
  rw [Tryz.params4] at hA hval
  obtain ⟨v0, d0, rfl, rfl, h0⟩ := trodAll_one hA
  obtain ⟨rfl, rfl⟩ := trodVars_none hV
  obtain ⟨s, rfl, rfl, rfl, ws⟩ := open_string Tryz.underlying9 (hval 0 9 v0 rfl rfl) h0
  have hT := blTabs hL
  clear hA0 hval0 hL
  simp only [List.append_nil] at hW'
  refine (fnBlank_c s W hT ws).mono fun e W' ⟨he, hk⟩ => ?_
  subst he
  have hb : Below W.heap.size W W' := hk.toBelow (Nat.le_refl _) (fun _ _ h => h.elim)
  refine ⟨_, rfl, _, _, _, [], [], [], hW', ?_, ?_, ?_, hb.frame _, fun h => by cases h⟩
  · exact trodAll_mk1 (shut_bool Tryz.underlying4 true)
  · exact trodAll_cons_mk (shut_string Tryz.underlying9 ws) trodAll_mk0
  · rfl

theorem fnSchemaBlank_said : Rows.FnSchemaBlankSaid :=
  OpenClaim.holds_of_wide 4 Tryz.f4 rfl rfl rfl rfl rfl rfl rfl ⟨rfl, rfl, rfl, rfl, rfl⟩ rfl rfl rfl rfl rfl (by kernel_rfl) Tryz.func4 (by kernel_rfl)
    (of_decide_eq_true (by kernel_rfl)) (by unfold Func.isWrapper; rw [if_neg (of_decide_eq_false (by kernel_rfl))]; exact ⟨rfl, rfl⟩)
    (fun os started H enc _ => blLifted os started H enc)

theorem fnSchemaBlank_holds : Rows.FnSchemaBlankCardSaid :=
  Claim7.holds_tied_plain_at .later [] [.data, .pinned] true (true, "c6940c9a975d375aafa154d0185fcc895db7bba33a98e9809780917041914772") true
    fnSchemaBlank_said (fun _ h => by cases h) (by kernel_rfl) (fun _ h => by cases h) fnSchemaBlank_row_tie rfl ⟨rfl, rfl⟩ (by kernel_rfl) rfl
    (fun f fn hf hfn => by
      obtain rfl : f = 4 := Option.some.inj ((show Tryz.prog.funcNamed "pub-claviger/laws.FnSchemaBlank" = some 4 by kernel_rfl).symm.trans hf) |>.symm
      obtain rfl : fn = Tryz.f4 := (Option.some.inj (Tryz.func4.symm.trans hfn)).symm
      exact ⟨by kernel_rfl, fun j t ht => by
        rw [Tryz.params4] at ht
        have hm : t ∈ [9] := by simpa using Array.mem_of_getElem? ht
        have hall : ([9].all fun u => !Tryz.prog.wantsStandIn u) = true := by kernel_rfl
        exact (show Tryz.prog.wantsStandIn t = false by simpa using List.all_eq_true.1 hall t hm)⟩)
    (by kernel_rfl)
#print axioms fnSchemaBlank_holds
end Go.Proofs.YtjclpmgfcaadmaaGreatDoor
