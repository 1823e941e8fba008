/- Sorted keys of maps: what slices.Sorted(maps.Keys(m)) hands back. -/
import Derived.Test.YthhjehajdcgkhaaGreatDoorKeys
import Derived.Test.YthhjehajdcgkhaaGreatDoorKeysRest
namespace Go.Proofs.YthhjehajdcgkhaaGreatDoor
open Go.RowKit Go.Maps Go.Sort Go.Shelf

/-- names in order -/
def leS (a b : Str) : Prop := a.data.toList ≤ b.data.toList
theorem leS_antisymm {a b : Str} (h : leS a b) (k : leS b a) : a = b := ByteArray.ext (Array.toList_inj.1 (List.le_antisymm h k))
/-- The keys, in order. -/
def SortedOut (w : World) (keys : List Str) (e : Ending) (w' : World) : Prop :=
  ∃ (ks : List Str) (o : Option Addr) (c : Nat), e = .returned (.slice o ks.length c) ∧ ks.Perm keys ∧ ks.Pairwise leS ∧ StrsAt w' (· < w.heap.size) ks (.slice o ks.length c) ∧ Keep NoB w w'

theorem sorted_out {w w' : World} {base : Nat} {E : TypeId} {v : Value} {ss : List (List UInt8)} {keys : List Str} (hp : ss.Perm (keys.map fun k => k.data.toList)) (hbase : w.heap.size ≤ base)
    (hrow : w'.ownsRow base E 1 v ss.length ((ss.mergeSort (fun x y => decide (x ≤ y))).map encStr)) (k : Keep NoB w w') : SortedOut w keys (.returned v) w' := by
  obtain ⟨ks, hks⟩ : ∃ ks : List Str, ks = (ss.mergeSort (fun x y => decide (x ≤ y))).map (fun bs => (⟨bs.toArray⟩ : Str)) := ⟨_, rfl⟩
  have hlen : ss.length = ks.length := by rw [hks, List.length_map, List.length_mergeSort]
  have hv : (ss.mergeSort (fun x y => decide (x ≤ y))).map encStr = ks.map Value.string := by
    rw [hks, List.map_map]; rfl
  rw [hv, hlen] at hrow
  obtain ⟨_, hs⟩ := ownsRow_strs (M := (· < w.heap.size)) hrow (fun i hi => by omega)
  have hs' := hs
  obtain ⟨ov, c, rfl, _⟩ := hs
  refine ⟨ks, ov, c, rfl, ?_, ?_, hs', k⟩
  · rw [hks]
    refine ((List.mergeSort_perm ss _).map _).trans ((hp.map _).trans (List.Perm.of_eq ?_))
    rw [List.map_map]
    conv => rhs; rw [← List.map_id keys]
    exact List.map_congr_left fun x _ => ByteArray.ext rfl
  · rw [hks, List.pairwise_map]
    refine (List.pairwise_mergeSort (le := fun x y : List UInt8 => decide (x ≤ y)) (fun a b c h1 h2 => ?_) (fun a b => ?_) ss).imp fun h => ?_
    · simp only [decide_eq_true_eq] at *; exact List.le_trans h1 h2
    · simp only [Bool.or_eq_true, decide_eq_true_eq]; exact List.le_total a b
    · unfold leS; simpa using h

section
variable (w : World) (m : Option Nat) (lv : List (Str × Value))
theorem keysEnt_c : Calls Tryz.prog 19 #[.map m] w fun e w' => e = .returned (.func (.func 42) #[] #[.pointer (some ⟨w.heap.size, 0, none⟩)]) ∧ w' = w.alloc (.cells #[.map m] 82) :=
  callsIn_wide.1 (Tryz.maps_Keys_19 m w)
theorem sortedEnt_c (h : KMapO Value.string w m lv) (hL : lv.length ≤ 3000000) (hs : ∀ p ∈ lv, p.1.size ≤ 3000000) :
    Calls Tryz.prog 18 #[.func (.func 42) #[] #[.pointer (some ⟨w.heap.size, 0, none⟩)]] (w.alloc (.cells #[.map m] 82)) (SortedOut w (lv.map (·.1))) := by
  cases m with
  | none =>
    obtain rfl : lv = [] := h
    refine (callsIn_wide.1 (Tryz.slices_Sorted_keys_nil_18_19 w)).mono ?_
    rintro e w' ⟨v, ss, rfl, rfl, hrow, _, hb⟩
    exact sorted_out (.refl _) (by simp) hrow ((Keep.alloc _ _ _).then (Keep.below hb fun i hi h => by omega))
  | some b =>
    obtain ⟨D0, h1, h2, h3⟩ := KMap.owns h Tryz.underlying78 hL hs
    refine (callsIn_wide.1 (Tryz.slices_Sorted_keys_18_19 b lv.length D0 noElem w h1 (by rw [h2]; unfold maxLen; omega) (by rw [h2]; omega))).mono ?_
    rintro e w' ⟨v, ss, rfl, hp, hrow, _, hb⟩
    exact sorted_out (hp.trans (by rw [List.map_map]; exact h3)) (by simp) hrow ((Keep.alloc _ _ _).then (Keep.below hb fun i hi h => by omega))

theorem keysEnum_c : Calls Tryz.prog 23 #[.map m] w fun e w' => e = .returned (.func (.func 45) #[] #[.pointer (some ⟨w.heap.size, 0, none⟩)]) ∧ w' = w.alloc (.cells #[.map m] 92) :=
  callsIn_wide.1 (Tryz.maps_Keys_23 m w)
theorem sortedEnum_c (h : KMapO Value.string w m lv) (hL : lv.length ≤ 3000000) (hs : ∀ p ∈ lv, p.1.size ≤ 3000000) :
    Calls Tryz.prog 18 #[.func (.func 45) #[] #[.pointer (some ⟨w.heap.size, 0, none⟩)]] (w.alloc (.cells #[.map m] 92)) (SortedOut w (lv.map (·.1))) := by
  cases m with
  | none =>
    obtain rfl : lv = [] := h
    refine (callsIn_wide.1 (Tryz.slices_Sorted_keys_nil_18_23 w)).mono ?_
    rintro e w' ⟨v, ss, rfl, rfl, hrow, _, hb⟩
    exact sorted_out (.refl _) (by simp) hrow ((Keep.alloc _ _ _).then (Keep.below hb fun i hi h => by omega))
  | some b =>
    obtain ⟨D0, h1, h2, h3⟩ := KMap.owns h Tryz.underlying78 hL hs
    refine (callsIn_wide.1 (Tryz.slices_Sorted_keys_18_23 b lv.length D0 noElem w h1 (by rw [h2]; unfold maxLen; omega) (by rw [h2]; omega))).mono ?_
    rintro e w' ⟨v, ss, rfl, hp, hrow, _, hb⟩
    exact sorted_out (hp.trans (by rw [List.map_map]; exact h3)) (by simp) hrow ((Keep.alloc _ _ _).then (Keep.below hb fun i hi h => by omega))

theorem keysRec_c : Calls Tryz.prog 44 #[.map m] w fun e w' => e = .returned (.func (.func 68) #[] #[.pointer (some ⟨w.heap.size, 0, none⟩)]) ∧ w' = w.alloc (.cells #[.map m] 86) :=
  callsIn_wide.1 (Tryz.maps_Keys_44 m w)
theorem sortedRec_c (h : KMapO Value.string w m lv) (hL : lv.length ≤ 3000000) (hs : ∀ p ∈ lv, p.1.size ≤ 3000000) :
    Calls Tryz.prog 43 #[.func (.func 68) #[] #[.pointer (some ⟨w.heap.size, 0, none⟩)]] (w.alloc (.cells #[.map m] 86)) (SortedOut w (lv.map (·.1))) := by
  cases m with
  | none =>
    obtain rfl : lv = [] := h
    refine (callsIn_wide.1 (Tryz.slices_Sorted_keys_nil_43_44 w)).mono ?_
    rintro e w' ⟨v, ss, rfl, rfl, hrow, _, hb⟩
    exact sorted_out (.refl _) (by simp) hrow ((Keep.alloc _ _ _).then (Keep.below hb fun i hi h => by omega))
  | some b =>
    obtain ⟨D0, h1, h2, h3⟩ := KMap.owns h Tryz.underlying103 hL hs
    refine (callsIn_wide.1 (Tryz.slices_Sorted_keys_43_44 b lv.length D0 noElem w h1 (by rw [h2]; unfold maxLen; omega) (by rw [h2]; omega))).mono ?_
    rintro e w' ⟨v, ss, rfl, hp, hrow, _, hb⟩
    exact sorted_out (hp.trans (by rw [List.map_map]; exact h3)) (by simp) hrow ((Keep.alloc _ _ _).then (Keep.below hb fun i hi h => by omega))
end
end Go.Proofs.YthhjehajdcgkhaaGreatDoor
