/-
  'laws.FnResolveEnum' returns true for every input, and leaves its argument as it was: an enumeration of 1 to 20 names of at most 50 bytes, each well-formed text, declared in the namespace N::M, is resolved to the one enumeration N::M::E with those values.
  Conditions: the row's own; the listed variables are tied to the program's text by the given tie.
-/
import Derived.Test.YthhjehajdcgkhaaGreatDoorEnW
import Derived.Test.YthhjehajdcgkhaaGreatDoorTie
import Derived.Test.YthhjehajdcgkhaaGreatDoorCards
import Derived.ProofKit
import Derived.OpenShut
import Derived.LaidMore
import Derived.Lay
import Derived.Deep.Strs
import Derived.Lib.LaidU8T
import Derived.Stop.Joined
import Derived.SevenTiedAt
namespace Go.Proofs.YthhjehajdcgkhaaGreatDoor
open Go.ChangeShapes Go.WideShapes Go.ChangeAt Go.RowKit Go.Deep

theorem enOwn : ownKnob Tryz.prog.godebug = none := by kernel_rfl
theorem enLaidOut : laidOutB Tryz.prog = true := by kernel_rfl
theorem enCells9 : Tryz.prog.cellsOf 9 = 1 := by kernel_rfl
theorem enFirst : Rows.laid_unicode_utf8_first = Lib.firstData := by kernel_rfl
theorem enAccept : (Rows.laid_unicode_utf8_acceptRanges : DataW Unit) = Lib.acceptData := by kernel_rfl
theorem enTabs {W : World} (h : laidMetH Tryz.prog Rows.fnResolveEnumRow.laid W) : Tabs W := by
  rw [MakeChecks.laidMetH_plain _ _ _ (by kernel_rfl)] at h
  have h1 : Lib.VarReads Tryz.prog W "unicode/utf8.acceptRanges" Rows.laid_unicode_utf8_acceptRanges := Lib.laidMet.reads h (.head _)
  have h2 : Lib.VarReads Tryz.prog W "unicode/utf8.first" Rows.laid_unicode_utf8_first := Lib.laidMet.reads h (.tail _ (.tail _ (.head _)))
  rw [enAccept] at h1
  rw [enFirst] at h2
  exact utf8Tabs_of_readsT (Go.Proofs.U8Types.of196 Tryz.laysValid) ⟨by kernel_rfl, by kernel_rfl, by kernel_rfl, by kernel_rfl, by kernel_rfl, by kernel_rfl, by kernel_rfl⟩ h2 h1

theorem strs_of {H : Type} {enc : TypeId × Value → H} {W : World} {a0 : Option Addr} {len cap fuel : Nat} {x : DataW H × List MemPlace} (h : DataW.trod enc Tryz.prog W 0 (fun _ => true) true fuel 33 (Value.cells (.slice a0 len cap)).toList = some x) :
    ∃ vs, StrsAt W NoB vs (.slice a0 len cap) := by
  rcases open_strs Tryz.underlying33 Tryz.underlying9 enCells9 h with ⟨hcs, _⟩ | ⟨a, len', cap', m, Sx, hcs, _, hl, hm, hmm, _, hcell⟩
  · simp [Value.cells] at hcs
    obtain ⟨rfl, rfl, rfl⟩ := hcs
    exact ⟨[], none, 0, rfl, .inl rfl⟩
  · simp [Value.cells] at hcs
    obtain ⟨rfl, rfl, rfl⟩ := hcs
    simp only [if_true] at hmm
    obtain rfl : cap = m := hmm.symm
    refine ⟨(List.range len).map Sx, some a, cap, by simp, ?_⟩
    rcases Nat.eq_zero_or_pos len with h0 | h0
    · exact .inl (by simp [h0])
    obtain ⟨b, off, spot⟩ := a
    have hspot : spot = none := by simpa [Addr.add] using World.cell?_spot (hcell 0 (by omega)).1
    subst hspot
    refine .inr ⟨b, off, rfl, NoB.not _, fun i hi => ⟨rfl, fun j v hj => ?_⟩⟩
    simp only [List.length_map, List.length_range] at hi
    match j, hj with
    | 0, hj =>
      simp only [List.getElem?_cons_zero, Option.some.injEq] at hj
      subst hj
      have h1 := (hcell i (by omega)).1
      rw [add_plain] at h1
      simp only [Nat.mul_one, Nat.add_zero]
      rw [h1]
      simp [List.getD_eq_getElem?_getD, hi]
    | j + 1, hj => simp at hj

set_option maxRecDepth 100000 in
theorem enLifted (os : Os) (started : os.Started) (H : Type) (enc : TypeId × Value → H) :
    ReturnsInHanded {} Tryz.checked os 8 .any (fun w args => (Rows.fnResolveEnumSpec.pre enc Tryz.prog Tryz.f8 [] false w args ∧ laidMetH Tryz.prog Rows.fnResolveEnumRow.laid w) ∧ sizedMet enc Tryz.prog Tryz.f8 (OpenSpec.ofChange Rows.fnResolveEnumSpec) false w args)
      (Rows.fnResolveEnumSpec.post enc Tryz.prog Tryz.f8 false true false false) := by
  refine returnsInHanded_of_change_and (C := Tryz.checked) (X := fun w _ => laidMetH Tryz.prog Rows.fnResolveEnumRow.laid w) (fun _ _ _ hh h => h.of_heap hh) enOwn started (by kernel_rfl) Tryz.func8
    (ChangeSpec.witness_shaped (enc := enc) (C := Tryz.checked) (os := os) (X := fun w _ => laidMetH Tryz.prog Rows.fnResolveEnumRow.laid w) false (World.laidAll Tryz.prog os Rows.fnResolveEnumRow.laid) #[.slice none 0 0] 8 (World.laidAll_os _ _ _) (World.shaped_of_ZipB (by kernel_rfl) (by kernel_rfl)) (by kernel_rfl) (by kernel_rfl) (by kernel_rfl)
      (by rw [MakeChecks.laidMetH_plain _ _ _ (by kernel_rfl)]; exact laidMet_laidAll _ (by kernel_rfl) (by kernel_rfl))) ?_
  intro W base args ds gs before hval0 hW _ _ hL _
  have hval : ∀ (j : Nat) t v, Tryz.f8.params[j]? = some t → args[j]? = some v → Value.okWide Tryz.prog W .any base t v := hval0
  have hW' := hW
  obtain ⟨p, q, hA0, hV, rfl, hfz, hnd⟩ := hW
  have hA : DataW.TrodAll enc Tryz.prog W 0 (fun _ => true) true Tryz.f8.params.toList args.toList ds p := hA0
  rw [Tryz.params8] at hA hval
  obtain ⟨v0, d0, rfl, rfl, h0⟩ := trodAll_one hA
  obtain ⟨rfl, rfl⟩ := trodVars_none hV
  obtain ⟨a0, len, cap, rfl⟩ := okWide_slice Tryz.underlying33 (hval 0 33 v0 rfl rfl)
  have h0k := h0
  obtain ⟨fuel, hf⟩ := h0
  obtain ⟨vs, hvs⟩ := strs_of hf
  have hT := enTabs hL
  clear hA0 hval0 hL
  simp only [List.append_nil] at hW'
  have hlt : ∀ x ∈ p, x.block < W.heap.size := fun x hx => by simpa using hW'.lt x hx
  refine (enum_c vs a0 len cap W hvs hT).mono fun e W' ⟨he, hk⟩ => ?_
  subst he
  have hb : Below W.heap.size W W' := hk.toBelow (Nat.le_refl _) (fun _ _ => NoB.not _)
  refine ⟨_, rfl, _, _, _, [], p ++ [], [], hW', ?_, ?_, ?_, hb.frame _, fun h => by cases h⟩
  · exact trodAll_mk1 (shut_bool Tryz.underlying4 true)
  · exact trodAll_cons_mk (Below.trod enLaidOut (by kernel_rfl) (of_decide_eq_true (by kernel_rfl)) h0k hb hlt) trodAll_mk0
  · rfl

theorem fnResolveEnum_said : Rows.FnResolveEnumSaid :=
  OpenClaim.holds_of_wide 8 Tryz.f8 rfl rfl rfl rfl rfl rfl rfl ⟨rfl, rfl, rfl, rfl, rfl⟩ rfl rfl rfl rfl rfl (by kernel_rfl) Tryz.func8 (by kernel_rfl)
    (of_decide_eq_true (by kernel_rfl)) (by unfold Func.isWrapper; rw [if_neg (of_decide_eq_false (by kernel_rfl))]; exact ⟨rfl, rfl⟩)
    (fun os started H enc _ => enLifted os started H enc)

theorem fnResolveEnum_holds : Rows.FnResolveEnumCardSaid :=
  Claim7.holds_tied_plain_at .later [] [.data, .data, .pinned] true (true, "144410a2bbbec86eb3e9d6325305a911b6863bef320d8acaaa20fbe630ffd252") true
    fnResolveEnum_said (fun _ h => by cases h) (by kernel_rfl) (fun _ h => by cases h) fnResolveEnum_row_tie rfl ⟨rfl, rfl⟩ (by kernel_rfl) rfl
    (fun f fn hf hfn => by
      obtain rfl : f = 8 := Option.some.inj ((show Tryz.prog.funcNamed "pub-claviger/laws.FnResolveEnum" = some 8 by kernel_rfl).symm.trans hf) |>.symm
      obtain rfl : fn = Tryz.f8 := (Option.some.inj (Tryz.func8.symm.trans hfn)).symm
      exact ⟨by kernel_rfl, fun j t ht => by
        rw [Tryz.params8] at ht
        have hm : t ∈ [33] := by simpa using Array.mem_of_getElem? ht
        have hall : ([33].all fun u => !Tryz.prog.wantsStandIn u) = true := by kernel_rfl
        exact (show Tryz.prog.wantsStandIn t = false by simpa using List.all_eq_true.1 hall t hm)⟩)
    (by kernel_rfl)
#print axioms fnResolveEnum_holds
end Go.Proofs.YthhjehajdcgkhaaGreatDoor
