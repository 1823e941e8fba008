/- Sorted keys of a map of one entry and of none, at this seat (the text of Keys, turned to it); names and attributes that are none; a type told back. -/
import Derived.Test.YtjclpmgfcaadmaaGreatDoorLkE
import Derived.Test.YtjclpmgfcaadmaaGreatDoorSkRest
import Derived.Maps.OwnSet
import Derived.Sort.KeysCollected
namespace Go.Proofs.YtjclpmgfcaadmaaGreatDoor
open Go.RowKit Go.Maps Go.Sort
open Go.WideElems (Fit rd rg)
open Go.WideShapes Go.MapKept

/-- how an element reads: not at all -/
def noElem : Value → Option (DataW Unit × List MemPlace) := fun _ => some (.nil, [])
theorem KMap.owns {w : World} {b : Nat} {lv : List (Str × Value)} (h : KMap Value.string w b lv) {k : TypeId} (hk : Tryz.prog.underlying k = some .string) (hL : lv.length ≤ 3000000) (hs : ∀ p ∈ lv, p.1.size ≤ 3000000) :
    ∃ D0 : DataW Unit, w.ownsMap Tryz.prog k noElem b lv.length D0 ∧ Maps.size D0 = lv.length ∧ (strKeys D0).Perm (lv.map fun p => p.1.data.toList) := by
  obtain ⟨es, clock, hb, hst, he, hn⟩ := h
  have hlen : es.size = lv.length := by have := congrArg List.length he; simpa using this
  have hrd : ∀ x ∈ es.toList, ∃ s : Str, x.key = .string s ∧ s.size ≤ 3000000 := by
    intro x hx
    have : (x.key, x.val) ∈ lv.map (fun p => (Value.string p.1, p.2)) := by rw [← he]; exact List.mem_map.2 ⟨x, hx, rfl⟩
    obtain ⟨p, hp, e⟩ := List.mem_map.1 this
    simp only [Prod.mk.injEq] at e
    exact ⟨p.1, e.1.symm, hs p hp⟩
  have hr : ∀ x ∈ es.toList, ∀ s : Str, x.key = .string s → Go.WideElems.rd Tryz.prog k noElem x = some (.string s.data.toList, .nil) := by
    intro x hx s e
    obtain ⟨s', e', hs'⟩ := hrd x hx
    rw [e] at e'
    cases e'
    unfold Go.WideElems.rd
    rw [e, Go.WideMaps.keyOf_string_mk hk (by unfold maxLen; omega)]
    rfl
  refine ⟨.map ((es.toList.map (rg Tryz.prog k noElem)).foldr DataW.insert []), ⟨es, clock, hb, ⟨by rw [hlen]; unfold maxLen; omega, hst, fun x hx => ?_⟩, by omega, rfl⟩, ?_, ?_⟩
  · obtain ⟨s, e, _⟩ := hrd x hx
    exact ⟨_, hr x hx s e⟩
  · rw [Maps.size_eq, length_sorted, List.length_map]; simpa using hlen
  · show List.Perm ((((es.toList.map (rg Tryz.prog k noElem)).foldr DataW.insert []).map fun p => strOf p.1)) _
    refine ((Go.WideShapes.sorted_perm _).map _).trans ?_
    rw [List.map_map]
    have e1 : es.toList.map ((fun p : Lit × DataW Unit => strOf p.1) ∘ rg Tryz.prog k noElem) = (es.toList.map (fun e => (e.key, e.val))).map (fun q => match q.1 with | .string s => s.data.toList | _ => []) := by
      rw [List.map_map]
      refine List.map_congr_left fun x hx => ?_
      obtain ⟨s, e, _⟩ := hrd x hx
      have h1 : rg Tryz.prog k noElem x = (.string s.data.toList, .nil) := by unfold rg; rw [hr x hx s e]; rfl
      simp only [Function.comp_apply, h1, e, strOf]
    rw [e1, he, List.map_map]
    exact List.Perm.of_eq (List.map_congr_left fun p _ => rfl)

open Go.Shelf
/-- What the sorted keys of one entry are. -/
def OneKey (w : World) (t : Str) (e : Ending) (w' : World) : Prop := ∃ (b c : Nat), e = .returned (.slice (some ⟨b, 0, none⟩) 1 c) ∧ w'.cell? ⟨b, 0, none⟩ = some (.string t) ∧ Keep NoB w w'
theorem one_out {w w' : World} {base : Nat} {E : TypeId} {v : Value} {ss : List (List UInt8)} {t : Str} (hp : ss.Perm [t.data.toList])
    (hrow : w'.ownsRow base E 1 v ss.length ((ss.mergeSort (fun x y => decide (x ≤ y))).map encStr)) (k : Keep NoB w w') : OneKey w t (.returned v) w' := by
  have hss : ss = [t.data.toList] := List.perm_singleton.1 hp
  subst hss
  have hm : ([t.data.toList].mergeSort (fun x y => decide (x ≤ y))).map encStr = [Value.string t] := by
    rw [List.mergeSort_singleton]
    rfl
  rw [hm] at hrow
  obtain ⟨g, cap, rfl⟩ := owns_some hrow
  exact ⟨g, cap, rfl, ownsRow_at hrow (i := 0) rfl, k⟩
theorem sortedEnts1_c {w : World} {m : Nat} {t : Str} {v : Value} (h : KMap Value.string w m [(t, v)]) (ht : t.size ≤ 1000) :
    Calls Tryz.prog 24 #[.func (.func 50) #[] #[.pointer (some ⟨w.heap.size, 0, none⟩)]] (w.alloc (.cells #[.map (some m)] 53)) (OneKey w t) := by
  obtain ⟨D0, h1, h2, h3⟩ := KMap.owns h Tryz.underlying86 (by simp) (by intro p hp; simp only [List.mem_singleton] at hp; subst hp; show t.size ≤ 3000000; omega)
  refine (callsIn_wide.1 (Tryz.slices_Sorted_keys_24_25 m 1 D0 noElem w h1 (by rw [h2]; unfold maxLen; simp) (by rw [h2]; simp))).mono ?_
  rintro e w' ⟨v, ss, rfl, hp, hrow, _, hb⟩
  exact one_out (hp.trans h3) hrow ((Keep.alloc _ _ _).then (Keep.below hb fun i hi h => by omega))
theorem sortedComs1_c {w : World} {m : Nat} {t : Str} {v : Value} (h : KMap Value.string w m [(t, v)]) (ht : t.size ≤ 1000) :
    Calls Tryz.prog 24 #[.func (.func 56) #[] #[.pointer (some ⟨w.heap.size, 0, none⟩)]] (w.alloc (.cells #[.map (some m)] 59)) (OneKey w t) := by
  obtain ⟨D0, h1, h2, h3⟩ := KMap.owns h Tryz.underlying86 (by simp) (by intro p hp; simp only [List.mem_singleton] at hp; subst hp; show t.size ≤ 3000000; omega)
  refine (callsIn_wide.1 (Tryz.slices_Sorted_keys_24_32 m 1 D0 noElem w h1 (by rw [h2]; unfold maxLen; simp) (by rw [h2]; simp))).mono ?_
  rintro e w' ⟨v, ss, rfl, hp, hrow, _, hb⟩
  exact one_out (hp.trans h3) hrow ((Keep.alloc _ _ _).then (Keep.below hb fun i hi h => by omega))
/-- nil keys of a nil map -/
def NoKey (w : World) (e : Ending) (w' : World) : Prop := e = .returned (.slice none 0 0) ∧ Keep NoB w w'
theorem plainNamesNil_c (w : World) : Calls Tryz.prog 26 #[.slice none 0 0] w fun e w' => e = .returned (.slice none 0 0) ∧ w' = w := by
  go_enter Tryz.func26, Tryz.ntmps26
  go_wp2_with fail
  refine wp_loop_once ?_
  go_wp2_with fail
  go_ret
  exact ⟨rfl, rfl⟩
theorem plainAttrsNil_c (w : World) : Calls Tryz.prog 27 #[.map none] w fun e w' => e = .returned (.slice none 0 0) ∧ Keep NoB w w' := by
  have HS := Lib.hid (callsIn_wide.1 (Tryz.slices_Sorted_keys_nil_30_51 w))
  go_enter Tryz.func27, Tryz.ntmps27
  go_wp2_with fail
  refine (callsIn_wide.1 (Tryz.maps_Keys_51 none w)).mono ?_
  rintro e w1 ⟨rfl, rfl⟩
  go_wp2_with fail
  refine HS.out.mono ?_
  rintro e w2 ⟨v, ss, rfl, hss, _, hv, hb⟩
  obtain rfl : v = .slice none 0 0 := hv.2 hss
  have k2 : Keep NoB w w2 := (Keep.alloc _ _ _).then (Keep.ofBelow hb)
  have H2 := Lib.hid k2
  clear k2 hb hss hv
  go_wp2_with fail
  refine wp_loop_once ?_
  go_wp2_with fail
  go_ret
  exact ⟨rfl, H2.out⟩
set_option maxRecDepth 100000 in
set_option maxHeartbeats 4000000 in
theorem plainType8_c (s : Str) (w : World) : Calls Tryz.prog 28 #[.iface 163 (.string s)] w fun e w' => e = .returned (.agg #[.int .i64 8, .string s, .slice none 0 0, .slice none 0 0]) ∧ Keep NoB w w' := by
  have t1 := fun (x : World) => (show (Instr.typeAssert (.iface 163 (.string s)) 94 157 true).run Tryz.prog x = .ok (.tuple #[.agg #[], .bool false]) x by kernel_rfl)
  have t2 := fun (x : World) => (show (Instr.typeAssert (.iface 163 (.string s)) 94 158 true).run Tryz.prog x = .ok (.tuple #[.agg #[], .bool false]) x by kernel_rfl)
  have t3 := fun (x : World) => (show (Instr.typeAssert (.iface 163 (.string s)) 94 159 true).run Tryz.prog x = .ok (.tuple #[.agg #[], .bool false]) x by kernel_rfl)
  have t4 := fun (x : World) => (show (Instr.typeAssert (.iface 163 (.string s)) 94 160 true).run Tryz.prog x = .ok (.tuple #[.string ⟨#[]⟩, .bool false]) x by kernel_rfl)
  have t5 := fun (x : World) => (show (Instr.typeAssert (.iface 163 (.string s)) 94 162 true).run Tryz.prog x = .ok (.tuple #[.agg #[.nilIface], .bool false]) x by kernel_rfl)
  have t6 := fun (x : World) => (show (Instr.typeAssert (.iface 163 (.string s)) 94 92 true).run Tryz.prog x = .ok (.tuple #[.map none, .bool false]) x by kernel_rfl)
  have t7 := fun (x : World) => (show (Instr.typeAssert (.iface 163 (.string s)) 94 118 true).run Tryz.prog x = .ok (.tuple #[.string ⟨#[]⟩, .bool false]) x by kernel_rfl)
  have t8 := fun (x : World) => (show (Instr.typeAssert (.iface 163 (.string s)) 94 163 true).run Tryz.prog x = .ok (.tuple #[.string s, .bool true]) x by kernel_rfl)
  go_enter Tryz.func28, Tryz.ntmps28
  go_wp2_with fail
  refine bodyPost_ret (v := .agg #[.int .i64 8, .string s, .slice none 0 0, .slice none 0 0]) ?_ rfl ⟨rfl, Keep.alloc _ _ _⟩
  simp [results, Tryz.results28, go_sem, Result.andThen]
end Go.Proofs.YtjclpmgfcaadmaaGreatDoor
