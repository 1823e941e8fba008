/- FnSchemaBlank: UnmarshalCedar, AST, impl.ParseSchema on a blank text. -/
import Derived.Test.YtjclpmgfcaadmaaGreatDoorBlI
import Derived.Test.YtjclpmgfcaadmaaGreatDoorSkRest
import Derived.Lib.ConvBytes
namespace Go.Proofs.YtjclpmgfcaadmaaGreatDoor
open Go.RowKit Go.Shelf

abbrev schO (p : Value) : Obj := .cells #[.string ⟨#[]⟩, p] 46 (0, 0)
set_option maxRecDepth 100000 in
set_option maxHeartbeats 4000000 in
theorem unmarshal_c {w : World} {X bb cap : Nat} {o : Option Addr} {s : ByteArray} (hX : w.heap[X]? = some (schO (.pointer none))) (hT : Tabs w) (hsrc : s.size = 0 ∨ (o = some ⟨bb, 0, none⟩ ∧ ∀ j, j < s.size → w.cell? ⟨bb, j, none⟩ = some (.int .u8 (at8 s j)))) (hcap : s.size ≤ cap) (hbl : Bl s 0) (hs : s.size ≤ 3000) :
    Calls Tryz.prog 12 #[.pointer (some ⟨X, 0, none⟩), .slice o s.size cap] w fun e w' => e = .returned .nilIface ∧ (∃ b, w'.heap[X]? = some (schO (.pointer (some ⟨b, 0, none⟩))) ∧ b ≠ X ∧ w'.heap[b]? = some emptyAst) ∧ Keep (· = X) w w' := by
  have HP := Lib.hid (pParseSchema_c (w := w) (f := ⟨#[]⟩) hT hsrc hcap hbl hs)
  have e0 : w.cell? ⟨X, 0, none⟩ = some (.string ⟨#[]⟩) := by simp [World.cell?, hX]
  have HX := Lib.hid hX
  clear hT hsrc hcap hbl hs hX
  go_enter Tryz.func12, Tryz.ntmps12
  go_wp2_with fail
  refine HP.out.mono ?_
  rintro e w1 ⟨⟨b, rfl, hb, hb1⟩, k1⟩
  have hX1 := k1.heap HX.out (fun h => h)
  have hlt := (Array.getElem?_eq_some_iff.1 HX.out).1
  have c1 : w1.cell? ⟨X, 1, none⟩ = some (.pointer none) := by simp [World.cell?, hX1]
  have f1 : w1.frozen? ⟨X, 1, none⟩ = false := by simp [World.frozen?, hX1]
  have H1 := Lib.hid (And.intro hX1 (And.intro hb1 (And.intro hb (And.intro k1 hlt))))
  clear hX1 hb1 hb k1 hlt
  go_wp2_with fail
  go_ret
  obtain ⟨hX1, hb1, hb, k1, hlt⟩ := H1.out
  have kk : Keep (· = X) w1 (w1.setCell ⟨X, 1, none⟩ (.pointer (some ⟨b, 0, none⟩))) := Keep.setCell _ _ _ (fun _ => rfl)
  exact ⟨rfl, ⟨b, setCell_lex hX1 1 _, by omega, kk.heap hb1 (show ¬ b = X by omega)⟩, k1.trans kk (fun _ _ h => h.elim) (fun _ _ h => h)⟩
theorem astOf_c {w : World} {X b : Nat} (hX : w.heap[X]? = some (schO (.pointer (some ⟨b, 0, none⟩)))) :
    Calls Tryz.prog 13 #[.pointer (some ⟨X, 0, none⟩)] w fun e w' => e = .returned (.pointer (some ⟨b, 0, none⟩)) ∧ w' = w := by
  have h : Calls Tryz.prog 23 #[.pointer (some ⟨X, 0, none⟩)] w fun e w' => e = .returned (.pointer (some ⟨b, 0, none⟩)) ∧ w' = w := by
    have e1 : w.cell? ⟨X, 1, none⟩ = some (.pointer (some ⟨b, 0, none⟩)) := by simp [World.cell?, hX]
    clear hX
    go_enter Tryz.func23, Tryz.ntmps23
    go_wp2_with fail
    go_ret
    exact ⟨rfl, rfl⟩
  have H := Lib.hid h
  clear h hX
  go_enter Tryz.func13, Tryz.ntmps13
  go_wp2_with fail
  refine H.out.mono ?_
  rintro e w1 ⟨rfl, rfl⟩
  go_wp2_with fail
  go_ret
  exact ⟨rfl, rfl⟩
theorem bytesWorld_keep (w : World) (e : TypeId) (s : ByteArray) : Keep NoB w (Lib.bytesWorld w e s) := by
  refine ⟨rfl, rfl, rfl, by rw [Lib.bytesWorld_size]; omega, fun i hi _ => Lib.bytesWorld_at_old w e s i hi⟩
theorem at8_list {s : ByteArray} {j : Nat} (hj : j < s.size) : (((s.data.toList.getD j 0).toNat : Nat) : Int) = at8 s j := by
  rw [← at8_get hj, List.getD_eq_getElem?_getD, List.getElem?_eq_getElem (by simpa using hj)]
  rfl

set_option maxRecDepth 100000 in
set_option maxHeartbeats 4000000 in
theorem implParse_c {w : World} {s : ByteArray} (hT : Tabs w) (hbl : Bl s 0) (hs : s.size ≤ 3000) :
    Calls Tryz.prog 6 #[.string s] w fun e w' => e = .returned (.tuple #[.slice none 0 0, .bool true]) ∧ Keep NoB w w' := by
  have hcv : ∀ x, (convert 9 50 (.string s)).run Tryz.prog x = .ok (.slice (some ⟨x.heap.size, 0, none⟩) s.size (grownCap x s.size 0 5)) (Lib.bytesWorld x 5 s) := fun x => Lib.run_convert_string_bytes x 9 50 5 s Tryz.underlying9 Tryz.underlying50 Tryz.underlying5
  have HH := Lib.hid (And.intro hT hbl)
  clear hT hbl
  go_enter Tryz.func6, Tryz.ntmps6
  go_wp2_with fail
  clear hcv
  obtain ⟨w1, hw1⟩ : ∃ x, x = w.alloc (.cells #[.string ⟨#[]⟩, .pointer none] 46) := ⟨_, rfl⟩
  have k1 : Keep NoB w w1 := hw1 ▸ Keep.alloc _ _ _
  have hX1 : w1.heap[w.heap.size]? = some (schO (.pointer none)) := hw1 ▸ (MapKept.heap_alloc _ _).1
  have hz1 : w1.heap.size = w.heap.size + 1 := by rw [hw1, World.size_alloc]
  rw [← hw1]
  clear hw1
  obtain ⟨c, hc⟩ : ∃ c, c = grownCap w1 s.size 0 5 := ⟨_, rfl⟩
  have hcs : s.size ≤ c := hc ▸ grownCap_ge _ _ _ _
  rw [← hc]
  obtain ⟨w2, hw2⟩ : ∃ x, x = Lib.bytesWorld w1 5 s := ⟨_, rfl⟩
  have k2 : Keep NoB w1 w2 := by
    rw [hw2]
    exact bytesWorld_keep _ _ _
  have hb2 : ∀ j, j < s.size → w2.cell? ⟨w.heap.size + 1, j, none⟩ = some (.int .u8 (at8 s j)) := by
    intro j hj
    have h := Lib.bytesWorld_cell w1 5 s j hj
    rw [hz1] at h
    rw [hw2, h, at8_list hj]
  rw [← hw2]
  clear hw2 hc
  have H2 := Lib.hid (And.intro (k1.then k2) (k2.heap hX1 (fun h => h)))
  have HU := Lib.hid (unmarshal_c (w := w2) (X := w.heap.size) (bb := w.heap.size + 1) (o := some ⟨w.heap.size + 1, 0, none⟩) (cap := c) (s := s) H2.out.2 (HH.out.1.keep H2.out.1) (.inr ⟨rfl, hb2⟩) hcs HH.out.2 hs)
  clear k1 k2 hb2 hX1 hz1 hcs
  refine HU.out.mono ?_
  rintro e w3 ⟨rfl, ⟨b, hX3, hne, hb3⟩, k3⟩
  have H3 := Lib.hid (And.intro hX3 (And.intro hb3 (And.intro hne k3)))
  clear hX3 hb3 hne k3
  go_wp2_with fail
  refine (astOf_c H3.out.1).mono ?_
  rintro e w4 ⟨rfl, hw4⟩
  obtain rfl : w3 = w4 := hw4.symm
  clear hw4
  have d0 : w3.cell? ⟨b, 0, none⟩ = some (.map none) ∧ w3.cell? ⟨b, 1, none⟩ = some (.map none) ∧ w3.cell? ⟨b, 2, none⟩ = some (.map none) ∧ w3.cell? ⟨b, 3, none⟩ = some (.map none) ∧ w3.cell? ⟨b, 4, none⟩ = some (.map none) := by
    simp [World.cell?, H3.out.2.1]
  obtain ⟨d0, d1, d2, d3, d4⟩ := d0
  go_wp2_with fail
  go_quiet (fail)
  go_wp2_with fail
  obtain ⟨w5, hw5⟩ : ∃ x, x = w3.drewN nq := ⟨_, rfl⟩
  have k5 : Keep NoB w3 w5 := hw5 ▸ Keep.drewN _ _ _
  rw [← hw5]
  clear hw5 d0 d1 d2 d3 d4
  have H5 := Lib.hid k5
  clear k5
  refine (callsIn_wide.1 (Tryz.maps_Keys_16 none w5)).mono ?_
  rintro e w6 ⟨rfl, hw6⟩
  have k6 : Keep NoB w5 w6 := hw6 ▸ Keep.alloc _ _ _
  have HS := Lib.hid (hw6 ▸ callsIn_wide.1 (Tryz.slices_Sorted_keys_nil_15_16 w5))
  have H6 := Lib.hid k6
  clear k6 hw6
  go_wp2_with fail
  refine HS.out.mono ?_
  rintro e w7 ⟨v, ss, rfl, hss, _, hv, hb7⟩
  obtain rfl : v = .slice none 0 0 := hv.2 hss
  have k7 := Keep.ofBelow hb7
  have H7 := Lib.hid k7
  clear k7 hb7 hss hv
  go_wp2_with fail
  refine wp_loop_once ?_
  go_wp2_with fail
  go_ret2
  exact ⟨rfl, (((H2.out.1.trans H3.out.2.2.2 (M'' := NoB) (fun _ _ h => h) (fun i hi h => by omega)).then H5.out).then H6.out).then H7.out⟩
end Go.Proofs.YtjclpmgfcaadmaaGreatDoor
