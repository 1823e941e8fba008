/- A map from strings, as the kit's contracts on sorted keys want it. -/
import Derived.Test.YthhjehajdcgkhaaGreatDoorIs
import Derived.Maps.OwnSet
import Derived.Sort.KeysCollected
namespace Go.Proofs.YthhjehajdcgkhaaGreatDoor
open Go.RowKit Go.Maps Go.Sort
open Go.WideElems (Fit rd rg)
open Go.WideShapes Go.MapKept

/-- how an element reads: not at all -/
def noElem : Value → Option (DataW Unit × List MemPlace) := fun _ => some (.nil, [])
theorem KMap.owns {w : World} {b : Nat} {lv : List (Str × Value)} (h : KMap Value.string w b lv) {k : TypeId} (hk : Tryz.prog.underlying k = some .string) (hL : lv.length ≤ 3000000) (hs : ∀ p ∈ lv, p.1.size ≤ 3000000) :
    ∃ D0 : DataW Unit, w.ownsMap Tryz.prog k noElem b lv.length D0 ∧ Maps.size D0 = lv.length ∧ (strKeys D0).Perm (lv.map fun p => p.1.data.toList) := by
  obtain ⟨es, clock, hb, hst, he, hn⟩ := h
  have hlen : es.size = lv.length := by have := congrArg List.length he; simpa using this
  have hrd : ∀ x ∈ es.toList, ∃ s : Str, x.key = .string s ∧ s.size ≤ 3000000 := by
    intro x hx
    have : (x.key, x.val) ∈ lv.map (fun p => (Value.string p.1, p.2)) := by rw [← he]; exact List.mem_map.2 ⟨x, hx, rfl⟩
    obtain ⟨p, hp, e⟩ := List.mem_map.1 this
    simp only [Prod.mk.injEq] at e
    exact ⟨p.1, e.1.symm, hs p hp⟩
  have hr : ∀ x ∈ es.toList, ∀ s : Str, x.key = .string s → rd Tryz.prog k noElem x = some (.string s.data.toList, .nil) := by
    intro x hx s e
    obtain ⟨s', e', hs'⟩ := hrd x hx
    rw [e] at e'
    cases e'
    unfold rd
    rw [e, Go.WideMaps.keyOf_string_mk hk (by unfold maxLen; omega)]
    rfl
  refine ⟨.map ((es.toList.map (rg Tryz.prog k noElem)).foldr DataW.insert []), ⟨es, clock, hb, ⟨by rw [hlen]; unfold maxLen; omega, hst, fun x hx => ?_⟩, by omega, rfl⟩, ?_, ?_⟩
  · obtain ⟨s, e, _⟩ := hrd x hx
    exact ⟨_, hr x hx s e⟩
  · rw [Maps.size_eq, length_sorted, List.length_map]; simpa using hlen
  · show List.Perm ((((es.toList.map (rg Tryz.prog k noElem)).foldr DataW.insert []).map fun p => strOf p.1)) _
    refine ((Go.WideShapes.sorted_perm _).map _).trans ?_
    rw [List.map_map]
    have e1 : es.toList.map ((fun p : Lit × DataW Unit => strOf p.1) ∘ rg Tryz.prog k noElem) = (es.toList.map (fun e => (e.key, e.val))).map (fun q => match q.1 with | .string s => s.data.toList | _ => []) := by
      rw [List.map_map]
      refine List.map_congr_left fun x hx => ?_
      obtain ⟨s, e, _⟩ := hrd x hx
      have h1 : rg Tryz.prog k noElem x = (.string s.data.toList, .nil) := by unfold rg; rw [hr x hx s e]; rfl
      simp only [Function.comp_apply, h1, e, strOf]
    rw [e1, he, List.map_map]
    exact List.Perm.of_eq (List.map_congr_left fun p _ => rfl)
end Go.Proofs.YthhjehajdcgkhaaGreatDoor
