/- FnSchemaTypeName: laws.schemaReads; the law. -/
import Derived.Test.YtjclpmgfcaadmaaGreatDoorTnA
import Derived.Test.YtjclpmgfcaadmaaGreatDoorSkF
import Derived.Test.YtjclpmgfcaadmaaGreatDoorLkE
namespace Go.Proofs.YtjclpmgfcaadmaaGreatDoor
open Go.RowKit Go.Shelf

theorem nameA : NameOk ⟨#[65]⟩ := ⟨by decide, by decide, by decide, by decide, by decide⟩
set_option maxRecDepth 100000 in
set_option maxHeartbeats 4000000 in
theorem schemaReads_c {w : World} (hT : Tabs w) : Calls Tryz.prog 7 #[] w fun e w' => e = .returned (.bool true) ∧ Keep NoB w w' := by
  have hx := entText nameA (s := ⟨#[101, 110, 116, 105, 116, 121, 32, 65, 59]⟩) (by kernel_rfl)
  have HI := Lib.hid (implOk_c (b := true) (w := w) (s := ⟨#[101, 110, 116, 105, 116, 121, 32, 65, 59]⟩) (t := ⟨#[65]⟩) hT (by decide) (by decide) hx.1 hx.2)
  clear hx
  go_enter Tryz.func7, Tryz.ntmps7
  go_wp2_with fail
  refine HI.out.mono ?_
  rintro e w1 ⟨⟨nb, c, rfl, db, dc, hd, hs⟩, k1⟩
  have p0 : w1.cell? ⟨nb, 0, none⟩ = some (.string ⟨#[]⟩) := hs 0 _ rfl
  have p1 : w1.cell? ⟨nb, 1, none⟩ = some (.slice (some ⟨db, 0, none⟩) 1 dc) := hs 1 _ rfl
  have p2 : w1.cell? ⟨nb, 2, none⟩ = some (.slice none 0 0) := hs 2 _ rfl
  have p3 : w1.cell? ⟨nb, 3, none⟩ = some (.slice none 0 0) := hs 3 _ rfl
  have p4 : w1.cell? ⟨nb, 4, none⟩ = some (.slice none 0 0) := hs 4 _ rfl
  have HK := Lib.hid k1
  clear hd hs k1
  go_wp2_with fail
  go_ret
  exact ⟨rfl, HK.out⟩
theorem res_any (t : Str) : decide (t ∈ resTypes) = (t.toList == [66, 111, 111, 108] || (t.toList == [66, 111, 111, 108, 101, 97, 110] || (t.toList == [69, 110, 116, 105, 116, 121] || (t.toList == [69, 120, 116, 101, 110, 115, 105, 111, 110] || (t.toList == [76, 111, 110, 103] || (t.toList == [82, 101, 99, 111, 114, 100] || (t.toList == [83, 101, 116] || (t.toList == [83, 116, 114, 105, 110, 103] || false)))))))) := by
  rw [mem_any]
  have hl : resTypes.map (fun y => y.toList) = [[66, 111, 111, 108], [66, 111, 111, 108, 101, 97, 110], [69, 110, 116, 105, 116, 121], [69, 120, 116, 101, 110, 115, 105, 111, 110], [76, 111, 110, 103], [82, 101, 99, 111, 114, 100], [83, 101, 116], [83, 116, 114, 105, 110, 103]] := by kernel_rfl
  rw [show (resTypes.any fun y => t.toList == y.toList) = (resTypes.map (fun y => y.toList)).any (fun y => t.toList == y) by rw [List.any_map]; rfl, hl]
  rfl
set_option maxRecDepth 100000 in
set_option maxHeartbeats 16000000 in
theorem fnTypeNo_c (t : ByteArray) (w : World) (hT : Tabs w) (hb : t.size ≤ 100) (hr : t ∈ resTypes) : Calls Tryz.prog 3 #[.string t, .bool false] w fun e w' => e = .returned (.bool true) ∧ Keep NoB w w' := by
  have HT := Lib.hid (And.intro hT hr)
  clear hT
  have hr2 := decide_eq_true hr
  rw [res_any] at hr2
  clear hr
  have h0 : ¬ (2147483647 : Int) < (t.size : Int) := by omega
  have h00 : ¬ (100 : Int) < (t.size : Int) := by omega
  obtain ⟨T, hTt⟩ : ∃ T, T = t.toList := ⟨_, rfl⟩
  rw [← hTt] at hr2
  have HW := Lib.hid (lawWord_c t w hb)
  have HX := Lib.hid (show NameOk t → Calls Tryz.prog 6 #[.string (⟨#[116, 121, 112, 101, 32]⟩ ++ t ++ ⟨#[32, 61, 32, 95, 95, 99, 101, 100, 97, 114, 58, 58, 76, 111, 110, 103, 59]⟩)] w fun e w' => e = .returned (.tuple #[.slice none 0 0, .bool false]) ∧ Keep NoB w w' from fun hn => by
    obtain ⟨S, hS⟩ : ∃ S : Str, S = ⟨#[116, 121, 112, 101, 32]⟩ ++ t ++ ⟨#[32, 61, 32, 95, 95, 99, 101, 100, 97, 114, 58, 58, 76, 111, 110, 103, 59]⟩ := ⟨_, rfl⟩
    rw [← hS]
    have hx := comText hn hS
    have hz : S.size ≤ 3000 := by
      rw [hS, ByteArray.size_append, ByteArray.size_append]
      have h1 : (⟨#[116, 121, 112, 101, 32]⟩ : ByteArray).size = 5 := rfl
      have h2 : (⟨#[32, 61, 32, 95, 95, 99, 101, 100, 97, 114, 58, 58, 76, 111, 110, 103, 59]⟩ : ByteArray).size = 17 := rfl
      omega
    exact implNo_c HT.out.1 hz hx.1 ⟨hx.2, HT.out.2⟩)
  simp only [Bool.or_eq_true, beq_iff_eq, Bool.false_eq_true, or_false] at hr2
  rcases hr2 with hr2 | hr2 | hr2 | hr2 | hr2 | hr2 | hr2 | hr2
  all_goals
    rw [hr2] at hTt
    clear hr2
    have hl := hTt.symm
    clear hTt
    go_enter Tryz.func3, Tryz.ntmps3
    go_wp2_with fail
    refine HW.out.mono ?_
    rintro e w1 ⟨⟨r, rfl, hn⟩, hw⟩
    obtain rfl : w = w1 := hw.symm
    have HN := Lib.hid hn
    clear hn hw
    cases r
    · go_wp2_with fail
      go_ret
      exact ⟨rfl, Keep.refl _ _⟩
    · go_wp2_with fail
      refine (HX.out (HN.out trivial)).mono ?_
      rintro e w2 ⟨rfl, k2⟩
      have H2 := Lib.hid (And.intro (HT.out.1.keep k2) k2)
      clear k2
      go_wp2_with fail
      refine (schemaReads_c H2.out.1).mono ?_
      rintro e w3 ⟨rfl, k3⟩
      have H3 := Lib.hid k3
      clear k3
      go_wp2_with fail
      go_ret
      exact ⟨rfl, H2.out.2.then H3.out⟩
set_option maxRecDepth 100000 in
set_option maxHeartbeats 16000000 in
theorem fnTypeYes_c (t : ByteArray) (w : World) (hT : Tabs w) (hb : t.size ≤ 100) (hr : t ∉ resTypes) : Calls Tryz.prog 3 #[.string t, .bool false] w fun e w' => e = .returned (.bool true) ∧ Keep NoB w w' := by
  have h0 : ¬ (2147483647 : Int) < (t.size : Int) := by omega
  have h00 : ¬ (100 : Int) < (t.size : Int) := by omega
  have HW := Lib.hid (lawWord_c t w hb)
  have HX := Lib.hid (show NameOk t → Calls Tryz.prog 6 #[.string (⟨#[116, 121, 112, 101, 32]⟩ ++ t ++ ⟨#[32, 61, 32, 95, 95, 99, 101, 100, 97, 114, 58, 58, 76, 111, 110, 103, 59]⟩)] w fun e w' => (∃ nb c, e = .returned (.tuple #[.slice (some ⟨nb, 0, none⟩) 1 c, .bool true]) ∧ SpaceAt w' false t nb) ∧ Keep NoB w w' from fun hn => by
    obtain ⟨S, hS⟩ : ∃ S : Str, S = ⟨#[116, 121, 112, 101, 32]⟩ ++ t ++ ⟨#[32, 61, 32, 95, 95, 99, 101, 100, 97, 114, 58, 58, 76, 111, 110, 103, 59]⟩ := ⟨_, rfl⟩
    rw [← hS]
    have hx := comText hn hS
    have hz : S.size ≤ 3000 := by
      rw [hS, ByteArray.size_append, ByteArray.size_append]
      have h1 : (⟨#[116, 121, 112, 101, 32]⟩ : ByteArray).size = 5 := rfl
      have h2 : (⟨#[32, 61, 32, 95, 95, 99, 101, 100, 97, 114, 58, 58, 76, 111, 110, 103, 59]⟩ : ByteArray).size = 17 := rfl
      omega
    exact implOk_c (b := false) hT hz (by omega) hx.1 ⟨hx.2, hr⟩)
  have hr2 := decide_eq_false hr
  rw [res_any] at hr2
  simp only [Bool.or_eq_false_iff, and_true] at hr2
  obtain ⟨f1, f2, f3, f4, f5, f6, f7, f8⟩ := hr2
  clear hr hT
  go_enter Tryz.func3, Tryz.ntmps3
  go_wp2_with fail
  refine HW.out.mono ?_
  rintro e w1 ⟨⟨r, rfl, hn⟩, hw⟩
  obtain rfl : w = w1 := hw.symm
  have HN := Lib.hid hn
  clear hn hw
  cases r
  · go_wp2_with fail
    go_ret
    exact ⟨rfl, Keep.refl _ _⟩
  · go_wp2_with fail
    · go_ret
      exact ⟨rfl, Keep.refl _ _⟩
    · refine (HX.out (HN.out trivial)).mono ?_
      rintro e w2 ⟨⟨nb, c, rfl, hs⟩, k2⟩
      have H2 := Lib.hid (And.intro hs k2)
      clear hs k2
      go_wp2_with fail
      obtain ⟨key, hkey⟩ : ∃ key, key = schK false t := ⟨_, rfl⟩
      obtain ⟨w3, hw3⟩ : ∃ x, x = w2.alloc (.cells #[.string t, .int .i64 8, .string ⟨#[95, 95, 99, 101, 100, 97, 114, 58, 58, 76, 111, 110, 103]⟩, .slice none 0 0, .slice none 0 0] 32) := ⟨_, rfl⟩
      have k3 : Keep NoB w2 w3 := hw3 ▸ Keep.alloc _ _ _
      have hb3 : w3.heap[w2.heap.size]? = some (.cells #[.string t, .int .i64 8, .string ⟨#[95, 95, 99, 101, 100, 97, 114, 58, 58, 76, 111, 110, 103]⟩, .slice none 0 0, .slice none 0 0] 32 (0, 0)) := hw3 ▸ (MapKept.heap_alloc w2 _).1
      have hz3 : w3.heap.size = w2.heap.size + 1 := by rw [hw3, World.size_alloc]
      rw [← hw3]
      clear hw3
      obtain ⟨wq, hwq⟩ : ∃ x, x = w3.alloc (.cells #[.string ⟨#[]⟩, .slice none 0 0, .slice none 0 0, .slice none 0 0, .slice (some ⟨w2.heap.size, 0, none⟩) 1 1] 38) := ⟨_, rfl⟩
      have kq : Keep NoB w3 wq := hwq ▸ Keep.alloc _ _ _
      have hbq : wq.heap[w2.heap.size + 1]? = some (.cells #[.string ⟨#[]⟩, .slice none 0 0, .slice none 0 0, .slice none 0 0, .slice (some ⟨w2.heap.size, 0, none⟩) 1 1] 38 (0, 0)) := by
        rw [hwq, ← hz3]; exact (MapKept.heap_alloc w3 _).1
      rw [← hwq]
      clear hwq
      have hdq : DeclAt wq false t w2.heap.size := by
        have h := kq.heap hb3 (fun h => h)
        intro j v hj
        rw [cellIn h]
        exact List.getElem?_toArray.trans hj
      have HQ := Lib.hid (show ∀ x, Keep NoB wq x → x.cell? ⟨w2.heap.size + 1, 0, none⟩ = some (.string ⟨#[]⟩) ∧ x.cell? ⟨w2.heap.size + 1, 1, none⟩ = some (.slice none 0 0) ∧ x.cell? ⟨w2.heap.size + 1, 2, none⟩ = some (.slice none 0 0) ∧ x.cell? ⟨w2.heap.size + 1, 3, none⟩ = some (.slice none 0 0) ∧ x.cell? ⟨w2.heap.size + 1, 4, none⟩ = some (.slice (some ⟨w2.heap.size, 0, none⟩) 1 1) from fun x kx => by
        have h := kx.heap hbq (fun h => h)
        exact ⟨by rw [cellIn h]; rfl, by rw [cellIn h]; rfl, by rw [cellIn h]; rfl, by rw [cellIn h]; rfl, by rw [cellIn h]; rfl⟩)
      have HK2 := Lib.hid (show ∀ x a, Keep NoB wq x → (a = .slice (some ⟨nb, 0, none⟩) 1 c ∨ ∃ d, a = .slice (some ⟨d, 0, none⟩) 1 1 ∧ x.heap[d]? = some (.cells #[.string ⟨#[]⟩, .slice none 0 0, .slice none 0 0, .slice none 0 0, .slice (some ⟨w2.heap.size, 0, none⟩) 1 1] 38 (0, 0))) → Calls Tryz.prog 8 #[a] x fun e w' => e = .returned (.string key) ∧ Keep NoB x w' from fun x a kx ha => by
        rw [hkey]
        rcases ha with rfl | ⟨d, rfl, hd⟩
        · exact schemaKey1_c (H2.out.1.keep ((k3.then kq).then kx)) (by omega)
        · exact schemaKey1_c (b := false) ⟨w2.heap.size, 1, hdq.keep kx, fun j v hj => by rw [cellIn hd]; exact List.getElem?_toArray.trans hj⟩ (by omega))
      have HKQ := Lib.hid (H2.out.2.then (k3.then kq))
      clear hkey k3 hb3 kq hbq hdq hz3
      have hK0 : Keep NoB wq wq.drew := Keep.drew _ _
      obtain ⟨c0, c1, c2, c3, c4⟩ := HQ.out _ hK0
      go_region_held3 (fun x => Keep NoB wq x ∧ x.cell? ⟨w2.heap.size + 1, 0, none⟩ = some (.string ⟨#[]⟩) ∧ x.cell? ⟨w2.heap.size + 1, 1, none⟩ = some (.slice none 0 0) ∧ x.cell? ⟨w2.heap.size + 1, 2, none⟩ = some (.slice none 0 0) ∧ x.cell? ⟨w2.heap.size + 1, 3, none⟩ = some (.slice none 0 0) ∧ x.cell? ⟨w2.heap.size + 1, 4, none⟩ = some (.slice (some ⟨w2.heap.size, 0, none⟩) 1 1))
        (with_reducible (first
          | exact ⟨kwA, HQ.out _ kwA⟩
          | exact ⟨(kwA.then (Keep.alloc _ _ _)), HQ.out _ (kwA.then (Keep.alloc _ _ _))⟩
          | exact ⟨(hK0.then (Keep.alloc _ _ _)), HQ.out _ (hK0.then (Keep.alloc _ _ _))⟩
          | exact ⟨hK0, HQ.out _ hK0⟩
          | assumption))
        ((go_at_call 8
          refine (HK2.out _ _ (by go_split_ands; assumption) (by first | exact .inl rfl | exact .inr ⟨_, rfl, (MapKept.heap_alloc _ _).1⟩ | exact .inr ⟨_, rfl, hd⟩)).mono ?_
          rintro e w5 ⟨rfl, k5⟩
          have kwA : Keep NoB wq w5 := Keep.then (by go_split_ands; assumption) k5
          (first | (with_reducible have hd := heap_alloc1 k5) | (with_reducible have hd := heap_alloc2 k5) | (with_reducible have hd := heap_again k5 hd) | skip)))
      all_goals
        have KZ := Lib.hid (HKQ.out.then kwA)
        clear c0 c1 c2 c3 c4 hK0
        go_wp2_with fail
        go_ret
        exact ⟨rfl, KZ.out⟩
set_option maxRecDepth 100000 in
set_option maxHeartbeats 16000000 in
theorem fnTypeEnt_c (t : ByteArray) (w : World) (hT : Tabs w) (hb : t.size ≤ 100) : Calls Tryz.prog 3 #[.string t, .bool true] w fun e w' => e = .returned (.bool true) ∧ Keep NoB w w' := by
  have h0 : ¬ (2147483647 : Int) < (t.size : Int) := by omega
  have h00 : ¬ (100 : Int) < (t.size : Int) := by omega
  have HW := Lib.hid (lawWord_c t w hb)
  have HX := Lib.hid (show NameOk t → Calls Tryz.prog 6 #[.string (⟨#[101, 110, 116, 105, 116, 121, 32]⟩ ++ t ++ ⟨#[59]⟩)] w fun e w' => (∃ nb c, e = .returned (.tuple #[.slice (some ⟨nb, 0, none⟩) 1 c, .bool true]) ∧ SpaceAt w' true t nb) ∧ Keep NoB w w' from fun hn => by
    obtain ⟨S, hS⟩ : ∃ S : Str, S = ⟨#[101, 110, 116, 105, 116, 121, 32]⟩ ++ t ++ ⟨#[59]⟩ := ⟨_, rfl⟩
    rw [← hS]
    have hx := entText hn hS
    have hz : S.size ≤ 3000 := by
      rw [hS, ByteArray.size_append, ByteArray.size_append]
      have h1 : (⟨#[101, 110, 116, 105, 116, 121, 32]⟩ : ByteArray).size = 7 := rfl
      have h2 : (⟨#[59]⟩ : ByteArray).size = 1 := rfl
      omega
    exact implOk_c (b := true) hT hz (by omega) hx.1 hx.2)
  clear hT
  go_enter Tryz.func3, Tryz.ntmps3
  go_wp2_with fail
  refine HW.out.mono ?_
  rintro e w1 ⟨⟨r, rfl, hn⟩, hw⟩
  obtain rfl : w = w1 := hw.symm
  have HN := Lib.hid hn
  clear hn hw
  cases r
  · go_wp2_with fail
    go_ret
    exact ⟨rfl, Keep.refl _ _⟩
  · go_wp2_with fail
    · go_ret
      exact ⟨rfl, Keep.refl _ _⟩
    · refine (HX.out (HN.out trivial)).mono ?_
      rintro e w2 ⟨⟨nb, c, rfl, hs⟩, k2⟩
      have H2 := Lib.hid (And.intro hs k2)
      clear hs k2
      go_wp2_with fail
      obtain ⟨key, hkey⟩ : ∃ key, key = schK true t := ⟨_, rfl⟩
      obtain ⟨wp, hwp⟩ : ∃ x, x = w2.alloc (.cells #[.string t, .int .i64 8, .string ⟨#[95, 95, 99, 101, 100, 97, 114, 58, 58, 76, 111, 110, 103]⟩, .slice none 0 0, .slice none 0 0] 32) := ⟨_, rfl⟩
      have kp : Keep NoB w2 wp := hwp ▸ Keep.alloc _ _ _
      have hzp : wp.heap.size = w2.heap.size + 1 := by rw [hwp, World.size_alloc]
      rw [← hwp]
      clear hwp
      obtain ⟨w3, hw3⟩ : ∃ x, x = wp.alloc (.cells #[.string ⟨#[]⟩, .slice (some ⟨w2.heap.size + 1 + 1, 0, none⟩) 1 1, .slice none 0 0, .slice none 0 0, .slice none 0 0] 38) := ⟨_, rfl⟩
      have k3 : Keep NoB wp w3 := hw3 ▸ Keep.alloc _ _ _
      have hb3 : w3.heap[w2.heap.size + 1]? = some (.cells #[.string ⟨#[]⟩, .slice (some ⟨w2.heap.size + 1 + 1, 0, none⟩) 1 1, .slice none 0 0, .slice none 0 0, .slice none 0 0] 38 (0, 0)) := by
        rw [hw3, ← hzp]; exact (MapKept.heap_alloc wp _).1
      have hz3 : w3.heap.size = w2.heap.size + 1 + 1 := by rw [hw3, World.size_alloc, hzp]
      rw [← hw3]
      clear hw3
      obtain ⟨wq, hwq⟩ : ∃ x, x = w3.alloc (.cells #[.string t, .slice none 0 0, .slice none 0 0, .bool false, .int .i64 0, .string ⟨#[]⟩, .slice none 0 0, .slice none 0 0] 41) := ⟨_, rfl⟩
      have kq : Keep NoB w3 wq := hwq ▸ Keep.alloc _ _ _
      have hbd : wq.heap[w2.heap.size + 1 + 1]? = some (.cells #[.string t, .slice none 0 0, .slice none 0 0, .bool false, .int .i64 0, .string ⟨#[]⟩, .slice none 0 0, .slice none 0 0] 41 (0, 0)) := by
        rw [hwq, ← hz3]; exact (MapKept.heap_alloc w3 _).1
      rw [← hwq]
      clear hwq
      have hbq := kq.heap hb3 (fun h => h)
      have hdq : DeclAt wq true t (w2.heap.size + 1 + 1) := by
        intro j v hj
        rw [cellIn hbd]
        exact List.getElem?_toArray.trans hj
      clear hbd hzp
      have HQ := Lib.hid (show ∀ x, Keep NoB wq x → x.cell? ⟨w2.heap.size + 1, 0, none⟩ = some (.string ⟨#[]⟩) ∧ x.cell? ⟨w2.heap.size + 1, 1, none⟩ = some (.slice (some ⟨w2.heap.size + 1 + 1, 0, none⟩) 1 1) ∧ x.cell? ⟨w2.heap.size + 1, 2, none⟩ = some (.slice none 0 0) ∧ x.cell? ⟨w2.heap.size + 1, 3, none⟩ = some (.slice none 0 0) ∧ x.cell? ⟨w2.heap.size + 1, 4, none⟩ = some (.slice none 0 0) from fun x kx => by
        have h := kx.heap hbq (fun h => h)
        exact ⟨by rw [cellIn h]; rfl, by rw [cellIn h]; rfl, by rw [cellIn h]; rfl, by rw [cellIn h]; rfl, by rw [cellIn h]; rfl⟩)
      have HK2 := Lib.hid (show ∀ x a, Keep NoB wq x → (a = .slice (some ⟨nb, 0, none⟩) 1 c ∨ ∃ d, a = .slice (some ⟨d, 0, none⟩) 1 1 ∧ x.heap[d]? = some (.cells #[.string ⟨#[]⟩, .slice (some ⟨w2.heap.size + 1 + 1, 0, none⟩) 1 1, .slice none 0 0, .slice none 0 0, .slice none 0 0] 38 (0, 0))) → Calls Tryz.prog 8 #[a] x fun e w' => e = .returned (.string key) ∧ Keep NoB x w' from fun x a kx ha => by
        rw [hkey]
        rcases ha with rfl | ⟨d, rfl, hd⟩
        · exact schemaKey1_c (H2.out.1.keep (((kp.then k3).then kq).then kx)) (by omega)
        · exact schemaKey1_c (b := true) ⟨w2.heap.size + 1 + 1, 1, hdq.keep kx, fun j v hj => by rw [cellIn hd]; exact List.getElem?_toArray.trans hj⟩ (by omega))
      have HKQ := Lib.hid (H2.out.2.then ((kp.then k3).then kq))
      clear hkey kp k3 hb3 kq hbq hdq hz3
      have hK0 : Keep NoB wq wq.drew := Keep.drew _ _
      obtain ⟨c0, c1, c2, c3, c4⟩ := HQ.out _ hK0
      go_region_held3 (fun x => Keep NoB wq x ∧ x.cell? ⟨w2.heap.size + 1, 0, none⟩ = some (.string ⟨#[]⟩) ∧ x.cell? ⟨w2.heap.size + 1, 1, none⟩ = some (.slice (some ⟨w2.heap.size + 1 + 1, 0, none⟩) 1 1) ∧ x.cell? ⟨w2.heap.size + 1, 2, none⟩ = some (.slice none 0 0) ∧ x.cell? ⟨w2.heap.size + 1, 3, none⟩ = some (.slice none 0 0) ∧ x.cell? ⟨w2.heap.size + 1, 4, none⟩ = some (.slice none 0 0))
        (with_reducible (first
          | exact ⟨kwA, HQ.out _ kwA⟩
          | exact ⟨(kwA.then (Keep.alloc _ _ _)), HQ.out _ (kwA.then (Keep.alloc _ _ _))⟩
          | exact ⟨(hK0.then (Keep.alloc _ _ _)), HQ.out _ (hK0.then (Keep.alloc _ _ _))⟩
          | exact ⟨hK0, HQ.out _ hK0⟩
          | assumption))
        ((go_at_call 8
          refine (HK2.out _ _ (by go_split_ands; assumption) (by first | exact .inl rfl | exact .inr ⟨_, rfl, (MapKept.heap_alloc _ _).1⟩ | exact .inr ⟨_, rfl, hd⟩)).mono ?_
          rintro e w5 ⟨rfl, k5⟩
          have kwA : Keep NoB wq w5 := Keep.then (by go_split_ands; assumption) k5
          (first | (with_reducible have hd := heap_alloc1 k5) | (with_reducible have hd := heap_alloc2 k5) | (with_reducible have hd := heap_again k5 hd) | skip)))
      all_goals
        have KZ := Lib.hid (HKQ.out.then kwA)
        clear c0 c1 c2 c3 c4 hK0
        go_wp2_with fail
        go_ret
        exact ⟨rfl, KZ.out⟩
set_option maxRecDepth 100000 in
set_option maxHeartbeats 4000000 in
theorem fnTypeName_c (t : ByteArray) (b : Bool) (w : World) (hT : Tabs w) (hm : t.size ≤ maxLen) : Calls Tryz.prog 3 #[.string t, .bool b] w fun e w' => e = .returned (.bool true) ∧ Keep NoB w w' := by
  unfold maxLen at hm
  by_cases hb : t.size ≤ 100
  · cases b
    · by_cases hr : t ∈ resTypes
      · exact fnTypeNo_c t w hT hb hr
      · exact fnTypeYes_c t w hT hb hr
    · exact fnTypeEnt_c t w hT hb
  · clear hT
    by_cases hbig : t.size ≤ 2147483647
    · have h0 : ¬ (2147483647 : Int) < (t.size : Int) := by omega
      have h00 : (100 : Int) < (t.size : Int) := by omega
      go_enter Tryz.func3, Tryz.ntmps3
      go_wp2_with fail
      go_ret
      exact ⟨rfl, Keep.refl _ _⟩
    · have h0 : (2147483647 : Int) < (t.size : Int) := by omega
      go_enter Tryz.func3, Tryz.ntmps3
      go_wp2_with fail
      go_ret
      exact ⟨rfl, Keep.refl _ _⟩
end Go.Proofs.YtjclpmgfcaadmaaGreatDoor
