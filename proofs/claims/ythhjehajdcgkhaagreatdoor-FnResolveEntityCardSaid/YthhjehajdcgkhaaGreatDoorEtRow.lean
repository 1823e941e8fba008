/-
  'laws.FnResolveEntity' returns true for every input, and leaves its arguments as they were: an entity type outside of namespaces, with at most 30 attributes of types of the language, or of sets of these of up to 20 sets one within the other, is resolved to itself; its tags, too.
  Conditions: the row's own; the listed variable (mapset.peppercorn) is tied to the program's text by the given tie.
-/
import Derived.Test.YthhjehajdcgkhaaGreatDoorEt
import Derived.Test.YthhjehajdcgkhaaGreatDoorTie
import Derived.Test.YthhjehajdcgkhaaGreatDoorCards
import Derived.ProofKit
import Derived.OpenShut
import Derived.LaidMore
import Derived.Stop.Joined
import Derived.SevenTiedAt
import Derived.ChangeSlices
namespace Go.Proofs.YthhjehajdcgkhaaGreatDoor
open Go.ChangeShapes Go.WideShapes Go.ChangeAt Go.RowKit

theorem etOwn : ownKnob Tryz.prog.godebug = none := by kernel_rfl
theorem etLaidOut : laidOutB Tryz.prog = true := by kernel_rfl
theorem etCells5 : Tryz.prog.cellsOf 5 = 1 := by kernel_rfl
theorem etDoor (os : Os) (args : Array Value) : laidMetH Tryz.prog Rows.fnResolveEntityRow.laid ((World.doorLaid Tryz.prog 400 os).forCall (fun _ _ => 0) ⟨#[], args, []⟩).memory :=
  laidMetH_of_parts3 (fuel := 8) (laidMet_of_run' 8 (by kernel_rfl) (by kernel_rfl)) (by kernel_rfl) (by kernel_rfl)

theorem bytes_of {H : Type} {enc : TypeId × Value → H} {W : World} {a0 : Option Addr} {len cap fuel : Nat} {x : DataW H × List MemPlace} (h : DataW.trod enc Tryz.prog W 0 (fun _ => true) true fuel 49 (Value.cells (.slice a0 len cap)).toList = some x) :
    ∃ K : Nat → Nat, (∀ i, K i < 256) ∧ BytesAt W K a0 len := by
  rcases open_ints Tryz.underlying49 Tryz.underlying5 etCells5 h with ⟨hcs, _⟩ | ⟨a, len', cap', zs, hcs, _, hl, hm, hz, _, hcell, hwz⟩
  · simp [Value.cells] at hcs
    obtain ⟨rfl, rfl, rfl⟩ := hcs
    exact ⟨fun _ => 0, fun _ => by show 0 < 256; omega, .inl rfl⟩
  · simp [Value.cells] at hcs
    obtain ⟨rfl, rfl, rfl⟩ := hcs
    simp only [if_true] at hz
    have hb : ∀ i, i < len → 0 ≤ zs.getD i 0 ∧ zs.getD i 0 ≤ 255 := fun i hi => by
      have h1 : zs.getD i 0 ∈ zs := by
        rw [List.getD_eq_getElem?_getD, List.getElem?_eq_getElem (by omega)]
        exact List.getElem_mem _
      exact bounds_u8 (hwz _ h1)
    refine ⟨fun i => if i < len then (zs.getD i 0).toNat else 0, fun i => ?_, ?_⟩
    · show (if i < len then (zs.getD i 0).toNat else 0) < 256
      by_cases hi : i < len
      · rw [if_pos hi]; have := hb i hi; omega
      · rw [if_neg hi]; omega
    · rcases Nat.eq_zero_or_pos len with h0 | h0
      · exact .inl h0
      obtain ⟨b, off, spot⟩ := a
      have hspot : spot = none := by simpa [Addr.add] using World.cell?_spot (hcell 0 (by omega))
      subst hspot
      refine .inr ⟨b, off, rfl, fun i hi => ?_⟩
      have h1 := hcell i (by omega)
      rw [show (⟨b, off, none⟩ : Addr).add i = ⟨b, off + i, none⟩ by unfold Addr.add; split <;> simp_all] at h1
      show W.cell? _ = some (.int .u8 (((if i < len then (zs.getD i 0).toNat else 0) : Nat) : Int))
      rw [if_pos hi, h1]
      have := hb i hi
      rw [show (((zs.getD i 0).toNat : Nat) : Int) = zs.getD i 0 by omega]

set_option maxRecDepth 100000 in
theorem etLifted (os : Os) (started : os.Started) (H : Type) (enc : TypeId × Value → H) :
    ReturnsInHanded {} Tryz.checked os 4 .any (fun w args => (Rows.fnResolveEntitySpec.pre enc Tryz.prog Tryz.f4 [] false w args ∧ laidMetH Tryz.prog Rows.fnResolveEntityRow.laid w) ∧ sizedMet enc Tryz.prog Tryz.f4 (OpenSpec.ofChange Rows.fnResolveEntitySpec) false w args)
      (Rows.fnResolveEntitySpec.post enc Tryz.prog Tryz.f4 false true false false) := by
  refine returnsInHanded_of_change_and (C := Tryz.checked) (X := fun w _ => laidMetH Tryz.prog Rows.fnResolveEntityRow.laid w) (fun _ _ _ hh h => h.of_heap hh) etOwn started (by kernel_rfl) Tryz.func4
    (ChangeSpec.witness_shaped (enc := enc) (C := Tryz.checked) (os := os) (X := fun w _ => laidMetH Tryz.prog Rows.fnResolveEntityRow.laid w) false (World.doorLaid Tryz.prog 400 os) #[.slice none 0 0, .int .u8 0, .bool false] 8 rfl (World.shaped_of_RefB (by kernel_rfl) (by kernel_rfl)) (by kernel_rfl) (by kernel_rfl) (by kernel_rfl) (etDoor os _)) ?_
  intro W base args ds gs before hval0 hW _ _ hL _
  have hval : ∀ (j : Nat) t v, Tryz.f4.params[j]? = some t → args[j]? = some v → Value.okWide Tryz.prog W .any base t v := hval0
  have hW' := hW
  obtain ⟨p, q, hA0, hV, rfl, hfz, hnd⟩ := hW
  have hA : DataW.TrodAll enc Tryz.prog W 0 (fun _ => true) true Tryz.f4.params.toList args.toList ds p := hA0
  rw [Tryz.params4] at hA hval
  obtain ⟨v0, v1, v2, d0, d1, d2, p0, p1, p2, rfl, rfl, rfl, h0, h1, h2⟩ := trodAll_three hA
  obtain ⟨rfl, rfl⟩ := trodVars_none hV
  obtain ⟨a0, len, cap, rfl⟩ := okWide_slice Tryz.underlying49 (hval 0 49 v0 rfl rfl)
  obtain ⟨a1, rfl, rfl, rfl, w1⟩ := open_int Tryz.underlying5 (hval 1 5 v1 rfl rfl) h1
  obtain ⟨a2, rfl, rfl, rfl⟩ := open_bool Tryz.underlying4 (hval 2 4 v2 rfl rfl) h2
  have b1 := bounds_u8 w1
  obtain ⟨n1, rfl⟩ := Int.eq_ofNat_of_zero_le b1.1
  have h0k := h0
  obtain ⟨fuel, hf⟩ := h0
  obtain ⟨K, hK, hB⟩ := bytes_of hf
  clear hA0 hval0 hL
  simp only [List.append_nil] at hW'
  have hlt : ∀ x ∈ p0, x.block < W.heap.size := fun x hx => hW'.lt x (by simp [hx])
  refine (entity_c K hK a0 len cap n1 (by omega) a2 W hB).mono fun e W' ⟨he, hk⟩ => ?_
  subst he
  have hb : Below W.heap.size W W' := hk.toBelow (Nat.le_refl _) (fun _ _ => NoB.not _)
  refine ⟨_, rfl, _, _, _, [], p0 ++ [], [], hW', ?_, ?_, ?_, hb.frame _, fun h => by cases h⟩
  · exact trodAll_mk1 (shut_bool Tryz.underlying4 true)
  · exact trodAll_cons_mk (Below.trod etLaidOut (by kernel_rfl) (of_decide_eq_true (by kernel_rfl)) h0k hb hlt) (trodAll_cons_mk (shut_int Tryz.underlying5 w1) (trodAll_cons_mk (shut_bool Tryz.underlying4 a2) trodAll_mk0))
  · rfl

theorem fnResolveEntity_said : Rows.FnResolveEntitySaid :=
  OpenClaim.holds_of_wide 4 Tryz.f4 rfl rfl rfl rfl rfl rfl rfl ⟨rfl, rfl, rfl, rfl, rfl⟩ rfl rfl rfl rfl rfl (by kernel_rfl) Tryz.func4 (by kernel_rfl)
    (of_decide_eq_true (by kernel_rfl)) (by unfold Func.isWrapper; rw [if_neg (of_decide_eq_false (by kernel_rfl))]; exact ⟨rfl, rfl⟩)
    (fun os started H enc _ => etLifted os started H enc)

theorem fnResolveEntity_holds : Rows.FnResolveEntityCardSaid :=
  Claim7.holds_tied_plain_at .later [] [.data] true (true, "144410a2bbbec86eb3e9d6325305a911b6863bef320d8acaaa20fbe630ffd252") true
    fnResolveEntity_said (fun _ h => by cases h) (by kernel_rfl) (fun _ h => by cases h) fnResolveEntity_row_tie rfl ⟨rfl, rfl⟩ (by kernel_rfl) rfl
    (fun f fn hf hfn => by
      obtain rfl : f = 4 := Option.some.inj ((show Tryz.prog.funcNamed "pub-claviger/laws.FnResolveEntity" = some 4 by kernel_rfl).symm.trans hf) |>.symm
      obtain rfl : fn = Tryz.f4 := (Option.some.inj (Tryz.func4.symm.trans hfn)).symm
      exact ⟨by kernel_rfl, fun j t ht => by
        rw [Tryz.params4] at ht
        have hm : t ∈ [49, 5, 4] := by simpa using Array.mem_of_getElem? ht
        have hall : ([49, 5, 4].all fun u => !Tryz.prog.wantsStandIn u) = true := by kernel_rfl
        exact (show Tryz.prog.wantsStandIn t = false by simpa using List.all_eq_true.1 hall t hm)⟩)
    (by kernel_rfl)
#print axioms fnResolveEntity_holds
end Go.Proofs.YthhjehajdcgkhaaGreatDoor
