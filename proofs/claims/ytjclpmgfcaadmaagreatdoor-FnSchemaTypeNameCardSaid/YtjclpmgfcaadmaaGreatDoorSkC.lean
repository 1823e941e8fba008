/- impl.plainSpace on a namespace of one common type. -/
import Derived.Test.YtjclpmgfcaadmaaGreatDoorSkB
namespace Go.Proofs.YtjclpmgfcaadmaaGreatDoor
open Go.RowKit Go.Shelf

set_option maxRecDepth 100000 in
set_option maxHeartbeats 16000000 in
theorem plainSpaceCom_c {w : World} {m : Nat} {t : Str} (h : KMap Value.string w m [(t, comV)]) (ht : t.size ≤ 200) :
    Calls Tryz.prog 14 #[.string ⟨#[]⟩, .agg #[.map none, .map none, .map none, .map none, .map (some m)]] w fun e w' => (∃ db c, e = .returned (outNs false db c) ∧ DeclAt w' false t db) ∧ Keep NoB w w' := by
  obtain ⟨iU, hiU, hzU, hsU, hbU⟩ := info_parts infoICom
  have HU := Lib.hid (And.intro hiU (And.intro hzU (And.intro hsU hbU)))
  have HM := Lib.hid h
  obtain ⟨P, hP⟩ : ∃ P : Str, P = cedarLong := ⟨_, rfl⟩
  have HPP := Lib.hid hP
  clear hiU hzU hsU hbU h hP
  go_enter Tryz.func14, Tryz.ntmps14
  go_wp2_with fail
  obtain ⟨w3, hw3⟩ : ∃ x, x = ((w.alloc (.cells #[.map none, .map none, .map none, .map none, .map (some m)] 68)).alloc (.cells #[.string ⟨#[]⟩, .slice none 0 0, .slice none 0 0, .slice none 0 0, .slice none 0 0] 38)).alloc (.cells #[.string ⟨#[]⟩, .slice none 0 0, .slice none 0 0, .slice none 0 0, .slice none 0 0] 38) := ⟨_, rfl⟩
  have k3 : Keep NoB w w3 := hw3 ▸ (((Keep.alloc w _ NoB).then (Keep.alloc _ _ NoB)).then (Keep.alloc _ _ NoB))
  have hbA : w3.heap[w.heap.size]? = some (.cells #[.map none, .map none, .map none, .map none, .map (some m)] 68 (0, 0)) := hw3 ▸ ((Keep.alloc _ _ NoB).then (Keep.alloc _ _ NoB)).heap (MapKept.heap_alloc w _).1 (fun h => h)
  have hbR : w3.heap[w.heap.size + 1]? = some (.cells #[.string ⟨#[]⟩, .slice none 0 0, .slice none 0 0, .slice none 0 0, .slice none 0 0] 38 (0, 0)) := by
    have h := (Keep.alloc ((w.alloc (.cells #[.map none, .map none, .map none, .map none, .map (some m)] 68)).alloc (.cells #[.string ⟨#[]⟩, .slice none 0 0, .slice none 0 0, .slice none 0 0, .slice none 0 0] 38)) (.cells #[.string ⟨#[]⟩, .slice none 0 0, .slice none 0 0, .slice none 0 0, .slice none 0 0] 38) NoB).heap (MapKept.heap_alloc (w.alloc (.cells #[.map none, .map none, .map none, .map none, .map (some m)] 68)) _).1 (fun h => h)
    rw [World.size_alloc, ← hw3] at h
    exact h
  have hbO : w3.heap[w.heap.size + 1 + 1]? = some (.cells #[.string ⟨#[]⟩, .slice none 0 0, .slice none 0 0, .slice none 0 0, .slice none 0 0] 38 (0, 0)) := by
    have h := (MapKept.heap_alloc ((w.alloc (.cells #[.map none, .map none, .map none, .map none, .map (some m)] 68)).alloc (.cells #[.string ⟨#[]⟩, .slice none 0 0, .slice none 0 0, .slice none 0 0, .slice none 0 0] 38)) (.cells #[.string ⟨#[]⟩, .slice none 0 0, .slice none 0 0, .slice none 0 0, .slice none 0 0] 38)).1
    rw [World.size_alloc, World.size_alloc, ← hw3] at h
    exact h
  have hz3 : w3.heap.size = w.heap.size + 1 + 1 + 1 := by rw [hw3, World.size_alloc, World.size_alloc, World.size_alloc]
  rw [← hw3]
  clear hw3
  have HAc := Lib.hid (show ∀ x, Keep NoB w3 x → x.cell? ⟨w.heap.size, 2, none⟩ = some (.map none) ∧ x.cell? ⟨w.heap.size, 3, none⟩ = some (.map none) ∧ x.cell? ⟨w.heap.size, 4, none⟩ = some (.map (some m)) from fun x kx => by
    have h := kx.heap hbA (fun h => h)
    exact ⟨by rw [cellIn h]; rfl, by rw [cellIn h]; rfl, by rw [cellIn h]; rfl⟩)
  have H3 := Lib.hid (And.intro k3 (And.intro hbA (And.intro hbR (And.intro hbO hz3))))
  obtain ⟨a2, a3, a4⟩ := HAc.out w3 (Keep.refl _ _)
  clear k3 hbA hbR hbO hz3
  refine (callsIn_wide.1 (Tryz.maps_Keys_25 none w3)).mono ?_
  rintro e wt ⟨rfl, hwt⟩
  have HN1 := Lib.hid (hwt ▸ callsIn_wide.1 (Tryz.slices_Sorted_keys_nil_24_25 w3))
  have kt1 : Keep NoB w3 wt := hwt ▸ Keep.alloc _ _ _
  have HT1 := Lib.hid kt1
  clear hwt kt1
  go_wp2_with fail
  refine HN1.out.mono ?_
  rintro e w4 ⟨v, ss, hv0, hss, _, hv, hb⟩
  obtain rfl := hv0
  obtain rfl : v = .slice none 0 0 := hv.2 hss
  have HK1 := Lib.hid (HT1.out.then (Keep.ofBelow hb))
  obtain ⟨a2, a3, a4⟩ := HAc.out w4 HK1.out
  clear hb hss hv
  go_wp2_with fail
  refine wp_loop_once ?_
  go_wp2_with fail
  refine (callsIn_wide.1 (Tryz.maps_Keys_29 none w4)).mono ?_
  rintro e wt ⟨rfl, hwt⟩
  have HN2 := Lib.hid (hwt ▸ callsIn_wide.1 (Tryz.slices_Sorted_keys_nil_24_29 w4))
  have kt2 : Keep NoB w4 wt := hwt ▸ Keep.alloc _ _ _
  have HT2 := Lib.hid kt2
  clear hwt kt2
  go_wp2_with fail
  refine HN2.out.mono ?_
  rintro e w5 ⟨v, ss, hv0, hss, _, hv, hb⟩
  obtain rfl := hv0
  obtain rfl : v = .slice none 0 0 := hv.2 hss
  have HK2 := Lib.hid (HT2.out.then (Keep.ofBelow hb))
  obtain ⟨a2, a3, a4⟩ := HAc.out w5 (HK1.out.then HK2.out)
  clear hb hss hv
  go_wp2_with fail
  refine wp_loop_once ?_
  go_wp2_with fail
  refine (callsIn_wide.1 (Tryz.maps_Keys_31 none w5)).mono ?_
  rintro e wt ⟨rfl, hwt⟩
  have HN3 := Lib.hid (hwt ▸ callsIn_wide.1 (Tryz.slices_Sorted_keys_nil_30_31 w5))
  have kt3 : Keep NoB w5 wt := hwt ▸ Keep.alloc _ _ _
  have HT3 := Lib.hid kt3
  clear hwt kt3
  go_wp2_with fail
  refine HN3.out.mono ?_
  rintro e w6 ⟨v, ss, hv0, hss, _, hv, hb⟩
  obtain rfl := hv0
  obtain rfl : v = .slice none 0 0 := hv.2 hss
  have HK3 := Lib.hid (HT3.out.then (Keep.ofBelow hb))
  have HK := Lib.hid ((HK1.out.then HK2.out).then HK3.out)
  obtain ⟨a2, a3, a4⟩ := HAc.out w6 HK.out
  clear hb hss hv
  go_wp2_with fail
  refine wp_loop_once ?_
  go_wp2_with fail
  have HS := Lib.hid (sortedComs1_c (HM.out.keep (H3.out.1.then HK.out) (fun h => h)) (by omega))
  refine (callsIn_wide.1 (Tryz.maps_Keys_32 (some m) w6)).mono ?_
  rintro e w6' ⟨rfl, rfl⟩
  go_wp2_with fail
  refine HS.out.mono ?_
  rintro e wr ⟨b, c, hv, hb5, k5⟩
  obtain rfl := hv
  have HR := Lib.hid (HK.out.then k5)
  have hkd : Keep NoB w3 wr.drew := HR.out.then (Keep.drew _ _)
  have hlk := (HM.out.keep (H3.out.1.then hkd) (fun h => h)).lookup (strKey Tryz.underlying86) Tryz.underlying59 (zeroACom wr.drew) t false
  rw [show kget [(t, comV)] t = some comV from kget_mem (by simp) (by simp)] at hlk
  simp only [Option.getD_some, Bool.false_eq_true, if_false, comV] at hlk
  rw [← HPP.out] at hlk
  have hfd : ∀ x : World, (Instr.field 127 (.agg #[.map none, .iface 163 (.string P)]) 1).run Tryz.prog x = .ok (.iface 163 (.string P)) x := fun x => by kernel_rfl
  have HOc := Lib.hid (show ∀ x, Keep NoB w3 x → x.cell? ⟨w.heap.size + 1 + 1, 4, none⟩ = some (.slice none 0 0) ∧ x.frozen? ⟨w.heap.size + 1 + 1, 4, none⟩ = false from fun x kx => by
    have h := kx.heap H3.out.2.2.2.1 (fun h => h)
    exact ⟨by rw [cellIn h]; rfl, frozenIn h 4⟩)
  have HT8 := Lib.hid (show ∀ x, Calls Tryz.prog 28 #[.iface 163 (.string P)] x fun e w' => e = .returned (.agg #[.int .i64 8, .string P, .slice none 0 0, .slice none 0 0]) ∧ Keep NoB x w' from fun x => plainType8_c P x)
  clear k5 a2 a3
  go_wp2_with fail
  refine wp_loop_rounds 2 ?_
  rw [rounds_succ]
  go_upto_region 41 with fail
  clear a4 hb5
  have a4 := (HAc.out _ hkd).2.2
  obtain ⟨c0, _⟩ := HOc.out _ hkd
  go_region_law
    (first
      | (go_simp; go_at_call 28; refine (HT8.out _).mono ?_; rintro e w4' ⟨rfl, k4⟩; have c4 := (HOc.out _ (hkd.then k4)).1; have c5 := fun O => (HOc.out (w4'.alloc O) ((hkd.then k4).then (Keep.alloc _ _ _))).1)
      | (have hown := World.ownsRow_nil (w4'.alloc (.cells #[.string t, .int .i64 8, .string P, .slice none 0 0, .slice none 0 0] 32)) wr.heap.size 32 5
         refine step_append_lies _ (by rfl) _ _ _ (by rfl) wr.heap.size 32 iU _ 5 88 Tryz.underlying33 HU.out.1 HU.out.2.1 HU.out.2.2.1 HU.out.2.2.2 rfl (by omega) _ _ [] (by rfl) hown
           ⟨w4'.heap.size, 0, none⟩ 1 1 [.string t, .int .i64 8, .string P, .slice none 0 0, .slice none 0 0] (by rfl) (by rfl) (World.news_of_block (cs := #[.string t, .int .i64 8, .string P, .slice none 0 0, .slice none 0 0]) (t := 32) (fr := (0, 0)) (heap_alloc_new w4' _)) (by simp [Value.oneCell'])
           (by omega) (by unfold maxLen; omega) (by omega) (by have h2 := k4.size; simp at h2; simp; omega) (w4'.heap.size + 1) (by simp) ?_
         intro gg cap w8 hown5 hgrow hgat hglt
         have kk5 : Keep NoB w3 w8 := ((hkd.then k4).then (Keep.alloc _ _ _)).trans (Keep.grown hgrow (M := fun i => wr.heap.size ≤ i) (fun i hi _ => (World.ownsRow.lt hown i hi).1)) (fun _ _ h => h) (fun i hi h => by have := hkd.size; simp at this; omega)
         have HX8 := Lib.hid (And.intro hown5 kk5)
         obtain ⟨c7, c6⟩ := HOc.out _ kk5
         clear kk5 hown5 hgrow hgat hglt hown k4))
  all_goals
    clear c0 c4 c5 c6 c7 a4 hlk hkd hfd
    obtain ⟨w9, hw9⟩ : ∃ x, x = w8.setCell ⟨w.heap.size + 1 + 1, 4, none⟩ (.slice (some ⟨gg, 0, none⟩) 1 cap) := ⟨_, rfl⟩
    rw [← hw9]
    obtain ⟨hown8, k38⟩ := HX8.out
    obtain ⟨k3, hbA, hbR, hbO, hz3⟩ := H3.out
    have hsr := HR.out.size
    have hbg := (ownsRow_cell (i := 0) hown8 rfl).2.2
    have k89 : Keep (· = w.heap.size + 1 + 1) w8 w9 := hw9 ▸ Keep.setCell _ _ _ (fun _ => rfl)
    have hO9 := setCell_lex (k38.heap hbO (fun h => h)) 4 (.slice (some ⟨gg, 0, none⟩) 1 cap)
    rw [← hw9] at hO9
    have hR9 := k89.heap (k38.heap hbR (fun h => h)) (show ¬ w.heap.size + 1 = w.heap.size + 1 + 1 by omega)
    have hD9 : ∀ j v, (declCs false t)[j]? = some v → w9.cell? ⟨gg, j, none⟩ = some v := fun j v hj => k89.cell (ownsRow_cell (i := j) hown8 (by rw [HPP.out]; exact hj)).1 (show ¬ gg = w.heap.size + 1 + 1 by omega)
    have kw9 : Keep NoB w w9 := (k3.then k38).trans k89 (fun _ _ h => h) (fun i hi h => by omega)
    have hgR : gg ≠ w.heap.size + 1 := by omega
    have o0 : w9.cell? ⟨w.heap.size + 1 + 1, 0, none⟩ = some (.string ⟨#[]⟩) := by rw [cellIn hO9]; rfl
    have o1 : w9.cell? ⟨w.heap.size + 1 + 1, 1, none⟩ = some (.slice none 0 0) := by rw [cellIn hO9]; rfl
    have o2 : w9.cell? ⟨w.heap.size + 1 + 1, 2, none⟩ = some (.slice none 0 0) := by rw [cellIn hO9]; rfl
    have o3 : w9.cell? ⟨w.heap.size + 1 + 1, 3, none⟩ = some (.slice none 0 0) := by rw [cellIn hO9]; rfl
    have o4 : w9.cell? ⟨w.heap.size + 1 + 1, 4, none⟩ = some (.slice (some ⟨gg, 0, none⟩) 1 cap) := by rw [cellIn hO9]; rfl
    have r0 : w9.cell? ⟨w.heap.size + 1, 0, none⟩ = some (.string ⟨#[]⟩) := by rw [cellIn hR9]; rfl
    have r1 : w9.cell? ⟨w.heap.size + 1, 1, none⟩ = some (.slice none 0 0) := by rw [cellIn hR9]; rfl
    have r2 : w9.cell? ⟨w.heap.size + 1, 2, none⟩ = some (.slice none 0 0) := by rw [cellIn hR9]; rfl
    have r3 : w9.cell? ⟨w.heap.size + 1, 3, none⟩ = some (.slice none 0 0) := by rw [cellIn hR9]; rfl
    have r4 : w9.cell? ⟨w.heap.size + 1, 4, none⟩ = some (.slice none 0 0) := by rw [cellIn hR9]; rfl
    have z0 := frozenIn hR9 0
    have z1 := frozenIn hR9 1
    have z2 := frozenIn hR9 2
    have z3 := frozenIn hR9 3
    have z4 := frozenIn hR9 4
    have H9 := Lib.hid (And.intro hR9 (And.intro hD9 (And.intro kw9 hgR)))
    clear hw9 hown8 k38 k3 hbA hbR hbO hz3 hsr hbg k89 hO9 hR9 hD9 kw9 hgR
    go_wp2_with fail
    rw [rounds_succ]
    go_wp2_with fail
    clear o0 o1 o2 o3 o4 r0 r1 r2 r3 r4 z0 z1 z2 z3 z4
    obtain ⟨wz, hwz⟩ : ∃ x, x = ((((w9.setCell ⟨w.heap.size + 1, 0, none⟩ (.string ⟨#[]⟩)).setCell ⟨w.heap.size + 1, 1, none⟩ (.slice none 0 0)).setCell ⟨w.heap.size + 1, 2, none⟩ (.slice none 0 0)).setCell ⟨w.heap.size + 1, 3, none⟩ (.slice none 0 0)).setCell ⟨w.heap.size + 1, 4, none⟩ (.slice (some ⟨gg, 0, none⟩) 1 cap) := ⟨_, rfl⟩
    obtain ⟨hR9, hD9, kw9, hgR⟩ := H9.out
    have hz := setCell_lex (setCell_lex (setCell_lex (setCell_lex (setCell_lex hR9 0 (.string ⟨#[]⟩)) 1 (.slice none 0 0)) 2 (.slice none 0 0)) 3 (.slice none 0 0)) 4 (.slice (some ⟨gg, 0, none⟩) 1 cap)
    have kst : ∀ (u : World) (i : Nat) (v : Value), Keep (· = w.heap.size + 1) w9 u → Keep (· = w.heap.size + 1) w9 (u.setCell ⟨w.heap.size + 1, i, none⟩ v) := fun u i v k => k.trans (Keep.setCell (M := (· = w.heap.size + 1)) _ _ _ (fun _ => rfl)) (fun _ _ h => h) (fun _ _ h => h)
    have kz : Keep (· = w.heap.size + 1) w9 wz := hwz ▸ kst _ _ _ (kst _ _ _ (kst _ _ _ (kst _ _ _ (kst _ _ _ (Keep.refl _ _)))))
    rw [← hwz] at hz ⊢
    have c0 : wz.cell? ⟨w.heap.size + 1, 0, none⟩ = some (.string ⟨#[]⟩) := by rw [cellIn hz]; rfl
    have c1 : wz.cell? ⟨w.heap.size + 1, 1, none⟩ = some (.slice none 0 0) := by rw [cellIn hz]; rfl
    have c2 : wz.cell? ⟨w.heap.size + 1, 2, none⟩ = some (.slice none 0 0) := by rw [cellIn hz]; rfl
    have c3 : wz.cell? ⟨w.heap.size + 1, 3, none⟩ = some (.slice none 0 0) := by rw [cellIn hz]; rfl
    have c4 : wz.cell? ⟨w.heap.size + 1, 4, none⟩ = some (.slice (some ⟨gg, 0, none⟩) 1 cap) := by rw [cellIn hz]; rfl
    refine bodyPost_ret (v := outNs false gg cap) ?_ rfl ⟨⟨gg, cap, rfl, fun j v hj => kz.cell (hD9 j v hj) hgR⟩, kw9.trans kz (fun _ _ h => h) (fun i hi h => by omega)⟩
    simp [results, Tryz.results14, go_sem, c0, c1, c2, c3, c4, Result.andThen, outNs, spCs]
end Go.Proofs.YtjclpmgfcaadmaaGreatDoor
