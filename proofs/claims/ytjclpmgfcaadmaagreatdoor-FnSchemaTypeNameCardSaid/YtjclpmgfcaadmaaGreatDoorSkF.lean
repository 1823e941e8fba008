/- impl.ParseSchema on a text of one declaration. -/
import Derived.Test.YtjclpmgfcaadmaaGreatDoorSkE
namespace Go.Proofs.YtjclpmgfcaadmaaGreatDoor
open Go.RowKit Go.Shelf

theorem infoISpace : (Tryz.prog.info? 38).map (fun i => (i.zero, i.size, i.bytes)) = some (some (.agg #[.string ⟨#[]⟩, .slice none 0 0, .slice none 0 0, .slice none 0 0, .slice none 0 0]), 5, 112) := by kernel_rfl
/-- The namespace's value as plainSpace takes it. -/
def parB (b : Bool) (m : Nat) : Value := if b then .agg #[.map none, .map (some m), .map none, .map none, .map none] else .agg #[.map none, .map none, .map none, .map none, .map (some m)]
theorem plainSpace_c {b : Bool} {w : World} {m : Nat} {t : Str} (h : KMap Value.string w m [(t, valB b)]) (ht : t.size ≤ 200) :
    Calls Tryz.prog 14 #[.string ⟨#[]⟩, parB b m] w fun e w' => (∃ db c, e = .returned (outNs b db c) ∧ DeclAt w' b t db) ∧ Keep NoB w w' := by
  cases b
  · exact plainSpaceCom_c h ht
  · exact plainSpaceEnt_c h ht
set_option maxRecDepth 100000 in
set_option maxHeartbeats 16000000 in
theorem implOk_c {b : Bool} {w : World} {s t : ByteArray} {q : Nat} (hT : Tabs w) (hs : s.size ≤ 3000) (ht : t.size ≤ 200) (hn : NextIs s 0 1 (kwOf b) q) (hx : DeclOk b s t q) :
    Calls Tryz.prog 6 #[.string s] w fun e w' => (∃ nb c, e = .returned (.tuple #[.slice (some ⟨nb, 0, none⟩) 1 c, .bool true]) ∧ SpaceAt w' b t nb) ∧ Keep NoB w w' := by
  obtain ⟨iU, hiU, hzU, hsU, hbU⟩ := info_parts infoISpace
  have HU0 := Lib.hid (And.intro hiU (And.intro hzU (And.intro hsU hbU)))
  clear hiU hzU hsU hbU
  have hcv : ∀ x, (convert 9 50 (.string s)).run Tryz.prog x = .ok (.slice (some ⟨x.heap.size, 0, none⟩) s.size (grownCap x s.size 0 5)) (Lib.bytesWorld x 5 s) := fun x => Lib.run_convert_string_bytes x 9 50 5 s Tryz.underlying9 Tryz.underlying50 Tryz.underlying5
  have HH := Lib.hid (And.intro hT (And.intro hn hx))
  clear hT hn hx
  go_enter Tryz.func6, Tryz.ntmps6
  go_wp2_with fail
  clear hcv
  obtain ⟨w1, hw1⟩ : ∃ x, x = w.alloc (.cells #[.string ⟨#[]⟩, .pointer none] 46) := ⟨_, rfl⟩
  have k1 : Keep NoB w w1 := hw1 ▸ Keep.alloc _ _ _
  have hX1 : w1.heap[w.heap.size]? = some (schO (.pointer none)) := hw1 ▸ (MapKept.heap_alloc _ _).1
  have hz1 : w1.heap.size = w.heap.size + 1 := by rw [hw1, World.size_alloc]
  rw [← hw1]
  clear hw1
  obtain ⟨c, hc⟩ : ∃ c, c = grownCap w1 s.size 0 5 := ⟨_, rfl⟩
  have hcs : s.size ≤ c := hc ▸ grownCap_ge _ _ _ _
  rw [← hc]
  obtain ⟨w2, hw2⟩ : ∃ x, x = Lib.bytesWorld w1 5 s := ⟨_, rfl⟩
  have k2 : Keep NoB w1 w2 := by
    rw [hw2]
    exact bytesWorld_keep _ _ _
  have hb2 : ∀ j, j < s.size → w2.cell? ⟨w.heap.size + 1, j, none⟩ = some (.int .u8 (at8 s j)) := by
    intro j hj
    have h := Lib.bytesWorld_cell w1 5 s j hj
    rw [hz1] at h
    rw [hw2, h, at8_list hj]
  rw [← hw2]
  clear hw2 hc
  have H2 := Lib.hid (And.intro (k1.then k2) (k2.heap hX1 (fun h => h)))
  have HU := Lib.hid (unmarshalOk_c (w := w2) (X := w.heap.size) (bb := w.heap.size + 1) (o := some ⟨w.heap.size + 1, 0, none⟩) (cap := c) (s := s) H2.out.2 ⟨HH.out.1.keep H2.out.1, .inr ⟨rfl, hb2⟩, hcs, hs⟩ HH.out.2.1 HH.out.2.2)
  clear k1 k2 hb2 hX1 hz1 hcs
  refine HU.out.mono ?_
  rintro e w3 ⟨rfl, ⟨C, hX3, hne, m, hm, hC3, hm3⟩, k3⟩
  have hmw : w.heap.size ≤ m := Nat.le_trans H2.out.1.size hm
  have H3 := Lib.hid (And.intro hX3 (And.intro hC3 (And.intro hm3 (And.intro k3 hne))))
  clear hX3 hC3 hm3 hm k3 hne hmw
  go_wp2_with fail
  refine (astOf_c H3.out.1).mono ?_
  rintro e w4 ⟨rfl, hw4⟩
  obtain rfl : w3 = w4 := hw4.symm
  clear hw4
  have HKw : Hid (Keep NoB w w3) := Lib.hid (H2.out.1.trans H3.out.2.2.2.1 (M'' := NoB) (fun _ _ h => h) (fun i hi h => by omega))
  have HPS := Lib.hid (show ∀ x, Keep NoB w3 x → Calls Tryz.prog 14 #[.string ⟨#[]⟩, parB b m] x fun e w' => (∃ s1 s2 s3 s4, e = .returned (.agg #[.string ⟨#[]⟩, s1, s2, s3, s4]) ∧ (∃ db c, spCs b db c = [.string ⟨#[]⟩, s1, s2, s3, s4] ∧ DeclAt w' b t db) ∧ s1.oneCell' = true ∧ s2.oneCell' = true ∧ s3.oneCell' = true ∧ s4.oneCell' = true) ∧ Keep NoB x w' from fun x kx => by
    refine (plainSpace_c (H3.out.2.2.1.keep kx (fun h => h)) ht).mono ?_
    rintro e w' ⟨⟨db, c, rfl, hd⟩, k⟩
    obtain ⟨s1, s2, s3, s4, h5, hsl⟩ := spCs_five b db c
    have hone : ∀ v ∈ [s1, s2, s3, s4], v.oneCell' = true := fun v hv => by obtain ⟨o, n, c, rfl⟩ := hsl v hv; rfl
    exact ⟨⟨s1, s2, s3, s4, by unfold outNs; rw [h5], ⟨db, c, h5, hd⟩, hone _ (by simp), hone _ (by simp), hone _ (by simp), hone _ (by simp)⟩, k⟩)
  have hlen := fun x (kx : Keep NoB w3 x) => KMapO.len (m := some m) (H3.out.2.2.1.keep kx (fun h => h)) (t := 53) Tryz.underlying53 3
  have hlen2 := fun x (kx : Keep NoB w3 x) => KMapO.len (m := some m) (H3.out.2.2.1.keep kx (fun h => h)) (t := 59) Tryz.underlying59 3
  have hl1 := hlen w3 (Keep.refl _ _)
  have hl2 := hlen2 w3 (Keep.refl _ _)
  have hl3 := fun n => hlen (w3.drewN n) (Keep.drewN _ _ _)
  have hl4 := fun n => hlen2 (w3.drewN n) (Keep.drewN _ _ _)
  have hl5 := hlen w3.drew (Keep.drew _ _)
  have hl6 := hlen2 w3.drew (Keep.drew _ _)
  simp only [List.length_cons, List.length_nil, Nat.zero_add, Int.ofNat_eq_natCast, Int.cast_ofNat_Int] at hl1 hl2 hl3 hl4 hl5 hl6
  clear hlen hlen2
  cases b
  · have hC3 : w3.heap[C]? = some (astO none none none (some m) none) := H3.out.2.1
    have HCx := Lib.hid (show ∀ x, Keep NoB w3 x → x.cell? ⟨C, 0, none⟩ = some (.map none) ∧ x.cell? ⟨C, 1, none⟩ = some (.map none) ∧ x.cell? ⟨C, 2, none⟩ = some (.map none) ∧ x.cell? ⟨C, 3, none⟩ = some (.map (some m)) ∧ x.cell? ⟨C, 4, none⟩ = some (.map none) from fun x kx => by
      obtain ⟨c0, c1, c2, c3, c4, _⟩ := astCells (kx.heap hC3 (fun h => h))
      exact ⟨c0, c1, c2, c3, c4⟩)
    obtain ⟨c0, c1, c2, c3, c4⟩ := HCx.out w3 (Keep.refl _ _)
    clear hC3
    go_wp2_with fail
    refine wp_region_quiet_lit (by kernel_rfl) (by kernel_rfl) ?_
    repeat (any_goals (first | go_big_quiet_step (fail)))
    refine wpQuiet_nil ?_
    intro _ hw'
    obtain ⟨nq, hw''⟩ := hw'
    subst hw''
    obtain ⟨wr, hwr⟩ : ∃ x, x = w3.drewN nq := ⟨_, rfl⟩
    have kr : Keep NoB w3 wr := hwr ▸ Keep.drewN _ _ _
    rw [← hwr]
    have HR := Lib.hid kr
    clear hwr kr hl1 hl2 hl3 hl4 hl5 hl6 c0 c1 c2 c3 c4
    go_upto_region 7 with fail
    have hkd : Keep NoB w3 wr.drew := HR.out.then (Keep.drew _ _)
    obtain ⟨c0, c1, c2, c3, c4⟩ := HCx.out _ hkd
    have HPB := Lib.hid (show ∀ x, Keep NoB w3 x → Calls Tryz.prog 14 #[.string ⟨#[]⟩, .agg #[.map none, .map none, .map none, .map none, .map (some m)]] x fun e w' => (∃ s1 s2 s3 s4, e = .returned (.agg #[.string ⟨#[]⟩, s1, s2, s3, s4]) ∧ (∃ db c, spCs false db c = [.string ⟨#[]⟩, s1, s2, s3, s4] ∧ DeclAt w' false t db) ∧ s1.oneCell' = true ∧ s2.oneCell' = true ∧ s3.oneCell' = true ∧ s4.oneCell' = true) ∧ Keep NoB x w' from HPS.out)
    go_region_held3 (fun x => x.cell? ⟨C, 0, none⟩ = some (.map none) ∧ x.cell? ⟨C, 1, none⟩ = some (.map none) ∧ x.cell? ⟨C, 2, none⟩ = some (.map none) ∧ x.cell? ⟨C, 3, none⟩ = some (.map (some m)) ∧ x.cell? ⟨C, 4, none⟩ = some (.map none))
      (first | exact ⟨c0, c1, c2, c3, c4⟩ | exact HCx.out _ HY.out.1 | exact HCx.out _ ((hkd.then k4).then (Keep.alloc _ _ _)) | exact HCx.out _ (hkd.then k4))
      ((first
        | (go_at_call 14; refine (HPB.out _ hkd).mono ?_; rintro e w4 ⟨⟨s1, s2, s3, s4, rfl, hdc, o1, o2, o3, o4⟩, k4⟩)
        | (have hown := World.ownsRow_nil (w4.alloc (.cells #[.string ⟨#[]⟩, s1, s2, s3, s4] 38)) wr.heap.size 38 5
           refine step_append_lies _ (by rfl) _ _ _ (by rfl) wr.heap.size 38 iU _ 5 112 Tryz.underlying23 HU0.out.1 HU0.out.2.1 HU0.out.2.2.1 HU0.out.2.2.2 rfl (by omega) _ _ [] (by rfl) hown
             ⟨w4.heap.size, 0, none⟩ 1 1 [.string ⟨#[]⟩, s1, s2, s3, s4] (by rfl) (by rfl) (World.news_of_block (cs := #[.string ⟨#[]⟩, s1, s2, s3, s4]) (t := 38) (fr := (0, 0)) (heap_alloc_new w4 _)) (by intro u hu; simp only [List.mem_cons, List.not_mem_nil, or_false] at hu; rcases hu with rfl | rfl | rfl | rfl | rfl <;> first | exact o1 | exact o2 | exact o3 | exact o4 | rfl)
             (by omega) (by unfold maxLen; omega) (by omega) (by have h2 := k4.size; simp at h2; simp; omega) (w4.heap.size + 1) (by simp) ?_
           intro gg cap w5 hown5 hgrow hgat hglt
           have kk5 : Keep NoB w3 w5 := ((hkd.then k4).then (Keep.alloc _ _ _)).trans (Keep.grown hgrow (M := fun i => wr.heap.size ≤ i) (fun i hi _ => (World.ownsRow.lt hown i hi).1)) (fun _ _ h => h) (fun i hi h => by have := HR.out.size; omega)
           have hd5 : ∃ db c, spCs false db c = [.string ⟨#[]⟩, s1, s2, s3, s4] ∧ DeclAt w5 false t db := by
             obtain ⟨db, c, h5, hd⟩ := hdc
             refine ⟨db, c, h5, fun j v hj => ?_⟩
             have hlt := block_lt_of_cell (hd j v hj)
             dsimp only at hlt
             exact (Keep.grown hgrow (M := fun i => (Value.slice none 0 0).ownBlock = some i) (fun i hi _ => hi)).cell ((Keep.alloc w4 _ NoB).cell (hd j v hj) (fun h => h)) (fun h => by cases h)
           have hsa : SpaceAt w5 false t gg := by
             obtain ⟨db, c, h5, hd⟩ := hd5
             exact ⟨db, c, hd, fun j v hj => (ownsRow_cell hown5 (by rw [h5] at hj; exact hj)).1⟩
           have HY := Lib.hid (And.intro kk5 hsa)
           clear kk5 hown5 hgrow hgat hglt hown k4 hdc hd5 hsa)))
    clear HPB HPS HU0
    obtain ⟨c0, c1, c2, c3, c4⟩ := HCx.out _ HY.out.1
    clear c0 c1 c2 c3
    go_wp2_with fail
    clear c4
    refine (callsIn_wide.1 (Tryz.maps_Keys_16 none w5)).mono ?_
    rintro e w6 ⟨rfl, hw6⟩
    have k6 : Keep NoB w5 w6 := hw6 ▸ Keep.alloc _ _ _
    have HS := Lib.hid (hw6 ▸ callsIn_wide.1 (Tryz.slices_Sorted_keys_nil_15_16 w5))
    have H6 := Lib.hid k6
    clear k6 hw6
    go_wp2_with fail
    refine HS.out.mono ?_
    rintro e w7 ⟨v, ss, rfl, hss, _, hv, hb7⟩
    obtain rfl : v = .slice none 0 0 := hv.2 hss
    have k7 := Keep.ofBelow hb7
    have H7 := Lib.hid k7
    clear k7 hb7 hss hv
    go_wp2_with fail
    refine wp_loop_once ?_
    go_wp2_with fail
    go_ret2
    exact ⟨⟨_, _, rfl, HY.out.2.keep (H6.out.then H7.out)⟩, ((HKw.out.then HY.out.1).then H6.out).then H7.out⟩
  · have hC3 : w3.heap[C]? = some (astO (some m) none none none none) := H3.out.2.1
    have HCx := Lib.hid (show ∀ x, Keep NoB w3 x → x.cell? ⟨C, 0, none⟩ = some (.map (some m)) ∧ x.cell? ⟨C, 1, none⟩ = some (.map none) ∧ x.cell? ⟨C, 2, none⟩ = some (.map none) ∧ x.cell? ⟨C, 3, none⟩ = some (.map none) ∧ x.cell? ⟨C, 4, none⟩ = some (.map none) from fun x kx => by
      obtain ⟨c0, c1, c2, c3, c4, _⟩ := astCells (kx.heap hC3 (fun h => h))
      exact ⟨c0, c1, c2, c3, c4⟩)
    obtain ⟨c0, c1, c2, c3, c4⟩ := HCx.out w3 (Keep.refl _ _)
    clear hC3
    go_wp2_with fail
    refine wp_region_quiet_lit (by kernel_rfl) (by kernel_rfl) ?_
    repeat (any_goals (first | go_big_quiet_step (fail)))
    refine wpQuiet_nil ?_
    intro _ hw'
    obtain ⟨nq, hw''⟩ := hw'
    subst hw''
    obtain ⟨wr, hwr⟩ : ∃ x, x = w3.drewN nq := ⟨_, rfl⟩
    have kr : Keep NoB w3 wr := hwr ▸ Keep.drewN _ _ _
    rw [← hwr]
    have HR := Lib.hid kr
    clear hwr kr hl1 hl2 hl3 hl4 hl5 hl6 c0 c1 c2 c3 c4
    go_upto_region 7 with fail
    have hkd : Keep NoB w3 wr.drew := HR.out.then (Keep.drew _ _)
    obtain ⟨c0, c1, c2, c3, c4⟩ := HCx.out _ hkd
    have HPB := Lib.hid (show ∀ x, Keep NoB w3 x → Calls Tryz.prog 14 #[.string ⟨#[]⟩, .agg #[.map none, .map (some m), .map none, .map none, .map none]] x fun e w' => (∃ s1 s2 s3 s4, e = .returned (.agg #[.string ⟨#[]⟩, s1, s2, s3, s4]) ∧ (∃ db c, spCs true db c = [.string ⟨#[]⟩, s1, s2, s3, s4] ∧ DeclAt w' true t db) ∧ s1.oneCell' = true ∧ s2.oneCell' = true ∧ s3.oneCell' = true ∧ s4.oneCell' = true) ∧ Keep NoB x w' from HPS.out)
    go_region_held3 (fun x => x.cell? ⟨C, 0, none⟩ = some (.map (some m)) ∧ x.cell? ⟨C, 1, none⟩ = some (.map none) ∧ x.cell? ⟨C, 2, none⟩ = some (.map none) ∧ x.cell? ⟨C, 3, none⟩ = some (.map none) ∧ x.cell? ⟨C, 4, none⟩ = some (.map none))
      (first | exact ⟨c0, c1, c2, c3, c4⟩ | exact HCx.out _ HY.out.1 | exact HCx.out _ ((hkd.then k4).then (Keep.alloc _ _ _)) | exact HCx.out _ (hkd.then k4))
      ((first
        | (go_at_call 14; refine (HPB.out _ hkd).mono ?_; rintro e w4 ⟨⟨s1, s2, s3, s4, rfl, hdc, o1, o2, o3, o4⟩, k4⟩)
        | (have hown := World.ownsRow_nil (w4.alloc (.cells #[.string ⟨#[]⟩, s1, s2, s3, s4] 38)) wr.heap.size 38 5
           refine step_append_lies _ (by rfl) _ _ _ (by rfl) wr.heap.size 38 iU _ 5 112 Tryz.underlying23 HU0.out.1 HU0.out.2.1 HU0.out.2.2.1 HU0.out.2.2.2 rfl (by omega) _ _ [] (by rfl) hown
             ⟨w4.heap.size, 0, none⟩ 1 1 [.string ⟨#[]⟩, s1, s2, s3, s4] (by rfl) (by rfl) (World.news_of_block (cs := #[.string ⟨#[]⟩, s1, s2, s3, s4]) (t := 38) (fr := (0, 0)) (heap_alloc_new w4 _)) (by intro u hu; simp only [List.mem_cons, List.not_mem_nil, or_false] at hu; rcases hu with rfl | rfl | rfl | rfl | rfl <;> first | exact o1 | exact o2 | exact o3 | exact o4 | rfl)
             (by omega) (by unfold maxLen; omega) (by omega) (by have h2 := k4.size; simp at h2; simp; omega) (w4.heap.size + 1) (by simp) ?_
           intro gg cap w5 hown5 hgrow hgat hglt
           have kk5 : Keep NoB w3 w5 := ((hkd.then k4).then (Keep.alloc _ _ _)).trans (Keep.grown hgrow (M := fun i => wr.heap.size ≤ i) (fun i hi _ => (World.ownsRow.lt hown i hi).1)) (fun _ _ h => h) (fun i hi h => by have := HR.out.size; omega)
           have hd5 : ∃ db c, spCs true db c = [.string ⟨#[]⟩, s1, s2, s3, s4] ∧ DeclAt w5 true t db := by
             obtain ⟨db, c, h5, hd⟩ := hdc
             refine ⟨db, c, h5, fun j v hj => ?_⟩
             have hlt := block_lt_of_cell (hd j v hj)
             dsimp only at hlt
             exact (Keep.grown hgrow (M := fun i => (Value.slice none 0 0).ownBlock = some i) (fun i hi _ => hi)).cell ((Keep.alloc w4 _ NoB).cell (hd j v hj) (fun h => h)) (fun h => by cases h)
           have hsa : SpaceAt w5 true t gg := by
             obtain ⟨db, c, h5, hd⟩ := hd5
             exact ⟨db, c, hd, fun j v hj => (ownsRow_cell hown5 (by rw [h5] at hj; exact hj)).1⟩
           have HY := Lib.hid (And.intro kk5 hsa)
           clear kk5 hown5 hgrow hgat hglt hown k4 hdc hd5 hsa)))
    clear HPB HPS HU0
    obtain ⟨c0, c1, c2, c3, c4⟩ := HCx.out _ HY.out.1
    clear c0 c1 c2 c3
    go_wp2_with fail
    clear c4
    refine (callsIn_wide.1 (Tryz.maps_Keys_16 none w5)).mono ?_
    rintro e w6 ⟨rfl, hw6⟩
    have k6 : Keep NoB w5 w6 := hw6 ▸ Keep.alloc _ _ _
    have HS := Lib.hid (hw6 ▸ callsIn_wide.1 (Tryz.slices_Sorted_keys_nil_15_16 w5))
    have H6 := Lib.hid k6
    clear k6 hw6
    go_wp2_with fail
    refine HS.out.mono ?_
    rintro e w7 ⟨v, ss, rfl, hss, _, hv, hb7⟩
    obtain rfl : v = .slice none 0 0 := hv.2 hss
    have k7 := Keep.ofBelow hb7
    have H7 := Lib.hid k7
    clear k7 hb7 hss hv
    go_wp2_with fail
    refine wp_loop_once ?_
    go_wp2_with fail
    go_ret2
    exact ⟨⟨_, _, rfl, HY.out.2.keep (H6.out.then H7.out)⟩, ((HKw.out.then HY.out.1).then H6.out).then H7.out⟩
end Go.Proofs.YtjclpmgfcaadmaaGreatDoor
