/- Keys, Ks: joined. -/
import Derived.Test.YtedgonoeeeiilaaGreatDoorIs
import Derived.Maps.OwnSet
import Derived.Sort.KeysCollected
import Derived.Test.YtedgonoeeeiilaaGreatDoorKeysRest
/- A map from strings, as the kit's contracts on sorted keys want it. -/
namespace Go.Proofs.YtedgonoeeeiilaaGreatDoor
open Go.RowKit Go.Maps Go.Sort
open Go.WideElems (Fit rg)
open Go.WideShapes Go.MapKept

/-- how an element reads: not at all -/
def noElem : Value → Option (DataW Unit × List MemPlace) := fun _ => some (.nil, [])
theorem KMap.owns {w : World} {b : Nat} {lv : List (Str × Value)} (h : KMap Value.string w b lv) {k : TypeId} (hk : Tryz.prog.underlying k = some .string) (hL : lv.length ≤ 3000000) (hs : ∀ p ∈ lv, p.1.size ≤ 3000000) :
    ∃ D0 : DataW Unit, w.ownsMap Tryz.prog k noElem b lv.length D0 ∧ Maps.size D0 = lv.length ∧ (strKeys D0).Perm (lv.map fun p => p.1.data.toList) := by
  obtain ⟨es, clock, hb, hst, he, hn⟩ := h
  have hlen : es.size = lv.length := by have := congrArg List.length he; simpa using this
  have hrd : ∀ x ∈ es.toList, ∃ s : Str, x.key = .string s ∧ s.size ≤ 3000000 := by
    intro x hx
    have : (x.key, x.val) ∈ lv.map (fun p => (Value.string p.1, p.2)) := by rw [← he]; exact List.mem_map.2 ⟨x, hx, rfl⟩
    obtain ⟨p, hp, e⟩ := List.mem_map.1 this
    simp only [Prod.mk.injEq] at e
    exact ⟨p.1, e.1.symm, hs p hp⟩
  have hr : ∀ x ∈ es.toList, ∀ s : Str, x.key = .string s → Go.WideElems.rd Tryz.prog k noElem x = some (.string s.data.toList, .nil) := by
    intro x hx s e
    obtain ⟨s', e', hs'⟩ := hrd x hx
    rw [e] at e'
    cases e'
    unfold Go.WideElems.rd
    rw [e, Go.WideMaps.keyOf_string_mk hk (by unfold maxLen; omega)]
    rfl
  refine ⟨.map ((es.toList.map (rg Tryz.prog k noElem)).foldr DataW.insert []), ⟨es, clock, hb, ⟨by rw [hlen]; unfold maxLen; omega, hst, fun x hx => ?_⟩, by omega, rfl⟩, ?_, ?_⟩
  · obtain ⟨s, e, _⟩ := hrd x hx
    exact ⟨_, hr x hx s e⟩
  · rw [Maps.size_eq, length_sorted, List.length_map]; simpa using hlen
  · show List.Perm ((((es.toList.map (rg Tryz.prog k noElem)).foldr DataW.insert []).map fun p => strOf p.1)) _
    refine ((Go.WideShapes.sorted_perm _).map _).trans ?_
    rw [List.map_map]
    have e1 : es.toList.map ((fun p : Lit × DataW Unit => strOf p.1) ∘ rg Tryz.prog k noElem) = (es.toList.map (fun e => (e.key, e.val))).map (fun q => match q.1 with | .string s => s.data.toList | _ => []) := by
      rw [List.map_map]
      refine List.map_congr_left fun x hx => ?_
      obtain ⟨s, e, _⟩ := hrd x hx
      have h1 : rg Tryz.prog k noElem x = (.string s.data.toList, .nil) := by unfold rg; rw [hr x hx s e]; rfl
      simp only [Function.comp_apply, h1, e, strOf]
    rw [e1, he, List.map_map]
    exact List.Perm.of_eq (List.map_congr_left fun p _ => rfl)
end Go.Proofs.YtedgonoeeeiilaaGreatDoor
/- Sorted keys of maps: what slices.Sorted(maps.Keys(m)) hands back. -/
namespace Go.Proofs.YtedgonoeeeiilaaGreatDoor
open Go.RowKit Go.Maps Go.Sort Go.Shelf

/-- names in order -/
def leS (a b : Str) : Prop := a.data.toList ≤ b.data.toList
theorem leS_antisymm {a b : Str} (h : leS a b) (k : leS b a) : a = b := ByteArray.ext (Array.toList_inj.1 (List.le_antisymm h k))
/-- The keys, in order. -/
def SortedOut (w : World) (keys : List Str) (e : Ending) (w' : World) : Prop :=
  ∃ (ks : List Str) (o : Option Addr) (c : Nat), e = .returned (.slice o ks.length c) ∧ ks.Perm keys ∧ ks.Pairwise leS ∧ StrsAt w' (· < w.heap.size) ks (.slice o ks.length c) ∧ Keep NoB w w'

theorem sorted_out {w w' : World} {base : Nat} {E : TypeId} {v : Value} {ss : List (List UInt8)} {keys : List Str} (hp : ss.Perm (keys.map fun k => k.data.toList)) (hbase : w.heap.size ≤ base)
    (hrow : w'.ownsRow base E 1 v ss.length ((ss.mergeSort (fun x y => decide (x ≤ y))).map encStr)) (k : Keep NoB w w') : SortedOut w keys (.returned v) w' := by
  obtain ⟨ks, hks⟩ : ∃ ks : List Str, ks = (ss.mergeSort (fun x y => decide (x ≤ y))).map (fun bs => (⟨bs.toArray⟩ : Str)) := ⟨_, rfl⟩
  have hlen : ss.length = ks.length := by rw [hks, List.length_map, List.length_mergeSort]
  have hv : (ss.mergeSort (fun x y => decide (x ≤ y))).map encStr = ks.map Value.string := by
    rw [hks, List.map_map]; rfl
  rw [hv, hlen] at hrow
  obtain ⟨_, hs⟩ := ownsRow_strs (M := (· < w.heap.size)) hrow (fun i hi => by omega)
  have hs' := hs
  obtain ⟨ov, c, rfl, _⟩ := hs
  refine ⟨ks, ov, c, rfl, ?_, ?_, hs', k⟩
  · rw [hks]
    refine ((List.mergeSort_perm ss _).map _).trans ((hp.map _).trans (List.Perm.of_eq ?_))
    rw [List.map_map]
    conv => rhs; rw [← List.map_id keys]
    exact List.map_congr_left fun x _ => ByteArray.ext rfl
  · rw [hks, List.pairwise_map]
    refine (List.pairwise_mergeSort (le := fun x y : List UInt8 => decide (x ≤ y)) (fun a b c h1 h2 => ?_) (fun a b => ?_) ss).imp fun h => ?_
    · simp only [decide_eq_true_eq] at *; exact List.le_trans h1 h2
    · simp only [Bool.or_eq_true, decide_eq_true_eq]; exact List.le_total a b
    · unfold leS; simpa using h

section
variable (w : World) (m : Option Nat) (lv : List (Str × Value))
theorem keysEnt_c : Calls Tryz.prog 14 #[.map m] w fun e w' => e = .returned (.func (.func 37) #[] #[.pointer (some ⟨w.heap.size, 0, none⟩)]) ∧ w' = w.alloc (.cells #[.map m] 71) :=
  callsIn_wide.1 (Tryz.maps_Keys_14 m w)
theorem sortedEnt_c (h : KMapO Value.string w m lv) (hL : lv.length ≤ 3000000) (hs : ∀ p ∈ lv, p.1.size ≤ 3000000) :
    Calls Tryz.prog 13 #[.func (.func 37) #[] #[.pointer (some ⟨w.heap.size, 0, none⟩)]] (w.alloc (.cells #[.map m] 71)) (SortedOut w (lv.map (·.1))) := by
  cases m with
  | none =>
    obtain rfl : lv = [] := h
    refine (callsIn_wide.1 (Tryz.slices_Sorted_keys_nil_13_14 w)).mono ?_
    rintro e w' ⟨v, ss, rfl, rfl, hrow, _, hb⟩
    exact sorted_out (.refl _) (by simp) hrow ((Keep.alloc _ _ _).then (Keep.below hb fun i hi h => by omega))
  | some b =>
    obtain ⟨D0, h1, h2, h3⟩ := KMap.owns h Tryz.underlying67 hL hs
    refine (callsIn_wide.1 (Tryz.slices_Sorted_keys_13_14 b lv.length D0 noElem w h1 (by rw [h2]; unfold maxLen; omega) (by rw [h2]; omega))).mono ?_
    rintro e w' ⟨v, ss, rfl, hp, hrow, _, hb⟩
    exact sorted_out (hp.trans (by rw [List.map_map]; exact h3)) (by simp) hrow ((Keep.alloc _ _ _).then (Keep.below hb fun i hi h => by omega))

theorem keysEnum_c : Calls Tryz.prog 18 #[.map m] w fun e w' => e = .returned (.func (.func 40) #[] #[.pointer (some ⟨w.heap.size, 0, none⟩)]) ∧ w' = w.alloc (.cells #[.map m] 81) :=
  callsIn_wide.1 (Tryz.maps_Keys_18 m w)
theorem sortedEnum_c (h : KMapO Value.string w m lv) (hL : lv.length ≤ 3000000) (hs : ∀ p ∈ lv, p.1.size ≤ 3000000) :
    Calls Tryz.prog 13 #[.func (.func 40) #[] #[.pointer (some ⟨w.heap.size, 0, none⟩)]] (w.alloc (.cells #[.map m] 81)) (SortedOut w (lv.map (·.1))) := by
  cases m with
  | none =>
    obtain rfl : lv = [] := h
    refine (callsIn_wide.1 (Tryz.slices_Sorted_keys_nil_13_18 w)).mono ?_
    rintro e w' ⟨v, ss, rfl, rfl, hrow, _, hb⟩
    exact sorted_out (.refl _) (by simp) hrow ((Keep.alloc _ _ _).then (Keep.below hb fun i hi h => by omega))
  | some b =>
    obtain ⟨D0, h1, h2, h3⟩ := KMap.owns h Tryz.underlying67 hL hs
    refine (callsIn_wide.1 (Tryz.slices_Sorted_keys_13_18 b lv.length D0 noElem w h1 (by rw [h2]; unfold maxLen; omega) (by rw [h2]; omega))).mono ?_
    rintro e w' ⟨v, ss, rfl, hp, hrow, _, hb⟩
    exact sorted_out (hp.trans (by rw [List.map_map]; exact h3)) (by simp) hrow ((Keep.alloc _ _ _).then (Keep.below hb fun i hi h => by omega))

theorem keysRec_c : Calls Tryz.prog 39 #[.map m] w fun e w' => e = .returned (.func (.func 63) #[] #[.pointer (some ⟨w.heap.size, 0, none⟩)]) ∧ w' = w.alloc (.cells #[.map m] 75) :=
  callsIn_wide.1 (Tryz.maps_Keys_39 m w)
theorem sortedRec_c (h : KMapO Value.string w m lv) (hL : lv.length ≤ 3000000) (hs : ∀ p ∈ lv, p.1.size ≤ 3000000) :
    Calls Tryz.prog 38 #[.func (.func 63) #[] #[.pointer (some ⟨w.heap.size, 0, none⟩)]] (w.alloc (.cells #[.map m] 75)) (SortedOut w (lv.map (·.1))) := by
  cases m with
  | none =>
    obtain rfl : lv = [] := h
    refine (callsIn_wide.1 (Tryz.slices_Sorted_keys_nil_38_39 w)).mono ?_
    rintro e w' ⟨v, ss, rfl, rfl, hrow, _, hb⟩
    exact sorted_out (.refl _) (by simp) hrow ((Keep.alloc _ _ _).then (Keep.below hb fun i hi h => by omega))
  | some b =>
    obtain ⟨D0, h1, h2, h3⟩ := KMap.owns h Tryz.underlying94 hL hs
    refine (callsIn_wide.1 (Tryz.slices_Sorted_keys_38_39 b lv.length D0 noElem w h1 (by rw [h2]; unfold maxLen; omega) (by rw [h2]; omega))).mono ?_
    rintro e w' ⟨v, ss, rfl, hp, hrow, _, hb⟩
    exact sorted_out (hp.trans (by rw [List.map_map]; exact h3)) (by simp) hrow ((Keep.alloc _ _ _).then (Keep.below hb fun i hi h => by omega))
end
end Go.Proofs.YtedgonoeeeiilaaGreatDoor
