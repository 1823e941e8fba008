/- The law's key of a namespace of one declaration; of a schema of that namespace alone. -/
import Derived.Test.YtjclpmgfcaadmaaGreatDoorLkC
import Derived.Test.YtjclpmgfcaadmaaGreatDoorLxK
namespace Go.Proofs.YtjclpmgfcaadmaaGreatDoor
open Go.RowKit

/-- The text of the declaration: an entity type with a name alone (b), or a common type. -/
def declK (b : Bool) : Str := if b then entK else digS 8 1 ++ frm cedarLong
def oneK (b : Bool) (t : Str) : Str := frm t ++ frm (declK b)
def spK (b : Bool) (t : Str) : Str := frm (if b then oneK b t else ⟨#[]⟩) ++ nilK ++ nilK ++ frm (if b then ⟨#[]⟩ else oneK b t)
def schK (b : Bool) (t : Str) : Str := frm ⟨#[]⟩ ++ frm (spK b t)
/-- The declaration's cells. -/
def declCs (b : Bool) (t : Str) : List Value := if b then [.string t, .slice none 0 0, .slice none 0 0, .bool false, .int .i64 0, .string ⟨#[]⟩, .slice none 0 0, .slice none 0 0] else [.string t, .int .i64 8, .string cedarLong, .slice none 0 0, .slice none 0 0]
/-- The declarations at a block. -/
def DeclAt (w : World) (b : Bool) (t : Str) (db : Nat) : Prop := ∀ j v, (declCs b t)[j]? = some v → w.cell? ⟨db, j, none⟩ = some v
theorem DeclAt.keep {w w' : World} {b : Bool} {t : Str} {db : Nat} (h : DeclAt w b t db) (k : Keep NoB w w') : DeclAt w' b t db := fun j v hj => k.cell (h j v hj) (fun h => h)
/-- A namespace without a name, of that declaration. -/
def spCs (b : Bool) (db c : Nat) : List Value := if b then [.string ⟨#[]⟩, .slice (some ⟨db, 0, none⟩) 1 c, .slice none 0 0, .slice none 0 0, .slice none 0 0] else [.string ⟨#[]⟩, .slice none 0 0, .slice none 0 0, .slice none 0 0, .slice (some ⟨db, 0, none⟩) 1 c]

set_option maxRecDepth 100000 in
set_option maxHeartbeats 16000000 in
theorem spaceKeyEnt_c {w : World} {db c : Nat} {t : Str} (h : DeclAt w true t db) (ht : t.size ≤ 200) :
    Calls Tryz.prog 18 #[.agg (spCs true db c).toArray] w fun e w' => e = .returned (.string (spK true t)) ∧ Keep NoB w w' := by
  obtain ⟨iU, hiU, hzU, hsU, hbU⟩ := info_parts infoEntry
  have HU := Lib.hid (And.intro hiU (And.intro hzU (And.intro hsU hbU)))
  obtain ⟨eK, heK⟩ : ∃ eK, eK = entK := ⟨_, rfl⟩
  have hez : eK.size ≤ 17 := heK ▸ entK_size
  have HE := Lib.hid (show ∀ x, Calls Tryz.prog 36 #[.agg #[.string t, .slice none 0 0, .slice none 0 0, .bool false, .int .i64 0, .string ⟨#[]⟩, .slice none 0 0, .slice none 0 0]] x fun en w' => en = .returned (.string eK) ∧ Keep NoB x w' from fun x => heK ▸ entityKey0_c t x)
  have HD := Lib.hid h
  have HEK := Lib.hid heK
  clear hiU hzU hsU hbU h heK
  show Calls Tryz.prog 18 #[.agg #[.string ⟨#[]⟩, .slice (some ⟨db, 0, none⟩) 1 c, .slice none 0 0, .slice none 0 0, .slice none 0 0]] w _
  obtain ⟨wb, hwb⟩ : ∃ wb, wb = w.alloc (.cells #[.string ⟨#[]⟩, .slice (some ⟨db, 0, none⟩) 1 c, .slice none 0 0, .slice none 0 0, .slice none 0 0] 38) := ⟨_, rfl⟩
  have kb : Keep NoB w wb := hwb ▸ Keep.alloc _ _ _
  have hbb : wb.heap[w.heap.size]? = some (.cells #[.string ⟨#[]⟩, .slice (some ⟨db, 0, none⟩) 1 c, .slice none 0 0, .slice none 0 0, .slice none 0 0] 38 (0, 0)) := hwb ▸ (MapKept.heap_alloc w _).1
  have HB := Lib.hid (And.intro kb hbb)
  clear kb hbb
  go_enter Tryz.func18, Tryz.ntmps18
  go_wp2_with fail
  rw [← hwb]
  clear hwb
  refine wp_loop_rounds 2 ?_
  rw [rounds_succ]
  have c1 : wb.cell? ⟨w.heap.size, 1, none⟩ = some (.slice (some ⟨db, 0, none⟩) 1 c) := by rw [cellIn HB.out.2]; rfl
  go_upto_region 5 with fail
  clear c1
  have HX := Lib.hid (show ∀ x, Keep NoB wb x → x.cell? ⟨w.heap.size, 1, none⟩ = some (.slice (some ⟨db, 0, none⟩) 1 c) ∧ x.cell? ⟨db, 0, none⟩ = some (.string t) ∧ x.cell? ⟨db, 1, none⟩ = some (.slice none 0 0) ∧ x.cell? ⟨db, 2, none⟩ = some (.slice none 0 0) ∧ x.cell? ⟨db, 3, none⟩ = some (.bool false) ∧ x.cell? ⟨db, 4, none⟩ = some (.int .i64 0) ∧ x.cell? ⟨db, 5, none⟩ = some (.string ⟨#[]⟩) ∧ x.cell? ⟨db, 6, none⟩ = some (.slice none 0 0) ∧ x.cell? ⟨db, 7, none⟩ = some (.slice none 0 0) from fun x kx => by
    have hd := HD.out.keep (HB.out.1.then kx)
    exact ⟨by rw [cellIn (kx.heap HB.out.2 (fun h => h))]; rfl, hd 0 _ rfl, hd 1 _ rfl, hd 2 _ rfl, hd 3 _ rfl, hd 4 _ rfl, hd 5 _ rfl, hd 6 _ rfl, hd 7 _ rfl⟩)
  have hkd : Keep NoB wb wb.drew := Keep.drew _ _
  obtain ⟨q0, q1, q2, q3, q4, q5, q6, q7, q8⟩ := HX.out _ hkd
  go_region_held3 (fun x => x.cell? ⟨w.heap.size, 1, none⟩ = some (.slice (some ⟨db, 0, none⟩) 1 c) ∧ x.cell? ⟨db, 0, none⟩ = some (.string t) ∧ x.cell? ⟨db, 1, none⟩ = some (.slice none 0 0) ∧ x.cell? ⟨db, 2, none⟩ = some (.slice none 0 0) ∧ x.cell? ⟨db, 3, none⟩ = some (.bool false) ∧ x.cell? ⟨db, 4, none⟩ = some (.int .i64 0) ∧ x.cell? ⟨db, 5, none⟩ = some (.string ⟨#[]⟩) ∧ x.cell? ⟨db, 6, none⟩ = some (.slice none 0 0) ∧ x.cell? ⟨db, 7, none⟩ = some (.slice none 0 0))
    (first | exact ⟨q0, q1, q2, q3, q4, q5, q6, q7, q8⟩ | exact HX.out _ HY.out.1 | exact HX.out _ ((hkd.then k4).then (Keep.alloc _ _ _)) | exact HX.out _ (hkd.then k4))
    ((first
      | (go_at_call 36; refine (HE.out _).mono ?_; rintro e w4 ⟨rfl, k4⟩)
      | (have hown := World.ownsRow_nil (w4.alloc (.cells #[.string t, .string eK] 79)) wb.heap.size 79 2
         refine step_append_lies _ (by rfl) _ _ _ (by rfl) wb.heap.size 79 iU _ 2 32 Tryz.underlying75 HU.out.1 HU.out.2.1 HU.out.2.2.1 HU.out.2.2.2 rfl (by omega) _ _ [] (by rfl) hown
           ⟨w4.heap.size, 0, none⟩ 1 1 [.string t, .string eK] (by rfl) (by rfl) (World.news_of_block (cs := #[.string t, .string eK]) (t := 79) (fr := (0, 0)) (heap_alloc_new w4 _)) (by simp [Value.oneCell'])
           (by omega) (by unfold maxLen; omega) (by omega) (by have h2 := k4.size; simp at h2; simp; omega) (w4.heap.size + 1) (by simp) ?_
         intro gg cap w5 hown5 hgrow hgat hglt
         have kk5 : Keep NoB wb w5 := ((hkd.then k4).then (Keep.alloc _ _ _)).trans (Keep.grown hgrow (M := fun i => wb.heap.size ≤ i) (fun i hi _ => (World.ownsRow.lt hown i hi).1)) (fun _ _ h => h) (fun i hi h => by omega)
         have HY := Lib.hid (And.intro kk5 hown5)
         clear kk5 hown5 hgrow hgat hglt hown k4)))
  clear q0 q1 q2 q3 q4 q5 q6 q7 q8 hkd
  have hb5 := HY.out.1.heap HB.out.2 (fun h => h)
  have b1 : w5.cell? ⟨w.heap.size, 1, none⟩ = some (.slice (some ⟨db, 0, none⟩) 1 c) := by rw [cellIn hb5]; rfl
  have b2 : w5.cell? ⟨w.heap.size, 2, none⟩ = some (.slice none 0 0) := by rw [cellIn hb5]; rfl
  have b3 : w5.cell? ⟨w.heap.size, 3, none⟩ = some (.slice none 0 0) := by rw [cellIn hb5]; rfl
  have b4 : w5.cell? ⟨w.heap.size, 4, none⟩ = some (.slice none 0 0) := by rw [cellIn hb5]; rfl
  obtain ⟨o0, _, _⟩ := ownsRow_cell (i := 0) HY.out.2 rfl
  obtain ⟨o1, _, _⟩ := ownsRow_cell (i := 1) HY.out.2 rfl
  have HC := Lib.hid (And.intro o0 o1)
  clear hb5 o0 o1
  go_wp2_with fail
  rw [rounds_succ]
  go_wp2_with fail
  refine wp_loop_once ?_
  go_wp2_with fail
  refine wp_loop_once ?_
  go_wp2_with fail
  refine wp_loop_once ?_
  clear b1 b2 b3
  go_wp2_with fail
  clear b4
  refine (ordering1_c (cap := cap) HC.out.1 HC.out.2 (by omega) (by omega)).mono ?_
  rintro e w6 ⟨rfl, k6⟩
  obtain ⟨O, hO⟩ : ∃ O, O = frm t ++ frm eK := ⟨_, rfl⟩
  have hOz : O.size ≤ 300 := by
    have h1 := frm_size (s := t) (by omega)
    have h2 := frm_size (s := eK) (by omega)
    rw [hO, ByteArray.size_append]; omega
  rw [← hO]
  have HO := Lib.hid (And.intro hO k6)
  clear hO k6
  have hFO := frm_size (s := O) (by omega)
  obtain ⟨FO, hFOe⟩ : ∃ FO, FO = frm O := ⟨_, rfl⟩
  have HFO := Lib.hid (show ∀ x, Calls Tryz.prog 42 #[.string O] x fun e w' => e = .returned (.string FO) ∧ Keep NoB x w' from fun x => hFOe ▸ framed_c O (by omega) x)
  obtain ⟨nk, hnk⟩ : ∃ nk, nk = nilK := ⟨_, rfl⟩
  have hnz : nk.size ≤ 8 := hnk ▸ nilK_size
  have HF0 := Lib.hid (show ∀ x, Calls Tryz.prog 42 #[.string ⟨#[]⟩] x fun e w' => e = .returned (.string nk) ∧ Keep NoB x w' from fun x => hnk ▸ framed_c ⟨#[]⟩ (by decide) x)
  rw [← hFOe] at hFO
  have HE2 := Lib.hid (And.intro hFOe hnk)
  clear hFOe hnk
  go_wp2_with fail
  refine (HFO.out _).mono ?_
  rintro e w7 ⟨rfl, k7⟩
  have H7 := Lib.hid k7
  clear k7
  go_wp2_with fail
  refine (orderingNil_c _).mono ?_
  rintro e w7' ⟨rfl, hw7⟩
  obtain rfl : w7 = w7' := hw7.symm
  clear hw7
  go_wp2_with fail
  refine (HF0.out _).mono ?_
  rintro e w8 ⟨rfl, k8⟩
  have H8 := Lib.hid k8
  clear k8
  go_wp2_with fail
  refine (orderingNil_c _).mono ?_
  rintro e w8' ⟨rfl, hw8⟩
  obtain rfl : w8 = w8' := hw8.symm
  clear hw8
  go_wp2_with fail
  refine (HF0.out _).mono ?_
  rintro e w9 ⟨rfl, k9⟩
  have H9 := Lib.hid k9
  clear k9
  go_wp2_with fail
  refine (orderingNil_c _).mono ?_
  rintro e w9' ⟨rfl, hw9⟩
  obtain rfl : w9 = w9' := hw9.symm
  clear hw9
  go_wp2_with fail
  refine (HF0.out _).mono ?_
  rintro e w10 ⟨rfl, k10⟩
  have H10 := Lib.hid k10
  clear k10
  go_wp2_with fail
  go_ret
  refine ⟨?_, HB.out.1.then (HY.out.1.then (HO.out.2.then (H7.out.then (H8.out.then (H9.out.then H10.out)))))⟩
  rw [HE2.out.1, HE2.out.2, HO.out.1, HEK.out]
  simp only [spK, oneK, declK, if_true, nilK]
  rfl
theorem comK_size : (digS 8 1 ++ frm cedarLong).size ≤ 50 := by
  have h1 := digS_short (n := 8) (by decide)
  have h2 := frm_size (s := cedarLong) (by decide)
  have h3 : cedarLong.size = 13 := rfl
  rw [ByteArray.size_append]
  omega
set_option maxRecDepth 100000 in
set_option maxHeartbeats 16000000 in
theorem spaceKeyCom_c {w : World} {db c : Nat} {t : Str} (h : DeclAt w false t db) (ht : t.size ≤ 200) :
    Calls Tryz.prog 18 #[.agg (spCs false db c).toArray] w fun e w' => e = .returned (.string (spK false t)) ∧ Keep NoB w w' := by
  obtain ⟨iU, hiU, hzU, hsU, hbU⟩ := info_parts infoEntry
  have HU := Lib.hid (And.intro hiU (And.intro hzU (And.intro hsU hbU)))
  obtain ⟨eK, heK⟩ : ∃ eK, eK = digS 8 1 ++ frm cedarLong := ⟨_, rfl⟩
  have hez : eK.size ≤ 50 := heK ▸ comK_size
  obtain ⟨P, hP⟩ : ∃ P : Str, P = cedarLong := ⟨_, rfl⟩
  have HE := Lib.hid (show ∀ x, Calls Tryz.prog 41 #[.agg #[.int .i64 8, .string P, .slice none 0 0, .slice none 0 0]] x fun en w' => en = .returned (.string eK) ∧ Keep NoB x w' from fun x => by rw [heK, hP]; exact typeKey8_c cedarLong (by decide) x)
  have HP := Lib.hid hP
  have HD := Lib.hid h
  have HEK := Lib.hid heK
  clear hiU hzU hsU hbU h heK hP
  show Calls Tryz.prog 18 #[.agg #[.string ⟨#[]⟩, .slice none 0 0, .slice none 0 0, .slice none 0 0, .slice (some ⟨db, 0, none⟩) 1 c]] w _
  obtain ⟨wb, hwb⟩ : ∃ wb, wb = w.alloc (.cells #[.string ⟨#[]⟩, .slice none 0 0, .slice none 0 0, .slice none 0 0, .slice (some ⟨db, 0, none⟩) 1 c] 38) := ⟨_, rfl⟩
  have kb : Keep NoB w wb := hwb ▸ Keep.alloc _ _ _
  have hbb : wb.heap[w.heap.size]? = some (.cells #[.string ⟨#[]⟩, .slice none 0 0, .slice none 0 0, .slice none 0 0, .slice (some ⟨db, 0, none⟩) 1 c] 38 (0, 0)) := hwb ▸ (MapKept.heap_alloc w _).1
  have HB := Lib.hid (And.intro kb hbb)
  clear kb hbb
  go_enter Tryz.func18, Tryz.ntmps18
  go_wp2_with fail
  rw [← hwb]
  clear hwb
  have c1 : wb.cell? ⟨w.heap.size, 1, none⟩ = some (.slice none 0 0) := by rw [cellIn HB.out.2]; rfl
  have c2 : wb.cell? ⟨w.heap.size, 2, none⟩ = some (.slice none 0 0) := by rw [cellIn HB.out.2]; rfl
  have c3 : wb.cell? ⟨w.heap.size, 3, none⟩ = some (.slice none 0 0) := by rw [cellIn HB.out.2]; rfl
  have c4 : wb.cell? ⟨w.heap.size, 4, none⟩ = some (.slice (some ⟨db, 0, none⟩) 1 c) := by rw [cellIn HB.out.2]; rfl
  refine wp_loop_once ?_
  go_wp2_with fail
  refine wp_loop_once ?_
  go_wp2_with fail
  refine wp_loop_once ?_
  go_wp2_with fail
  refine wp_loop_rounds 2 ?_
  rw [rounds_succ]
  go_upto_region 21 with fail
  clear c1 c2 c3 c4
  have HX := Lib.hid (show ∀ x, Keep NoB wb x → x.cell? ⟨w.heap.size, 4, none⟩ = some (.slice (some ⟨db, 0, none⟩) 1 c) ∧ x.cell? ⟨db, 0, none⟩ = some (.string t) ∧ x.cell? ⟨db, 1, none⟩ = some (.int .i64 8) ∧ x.cell? ⟨db, 2, none⟩ = some (.string P) ∧ x.cell? ⟨db, 3, none⟩ = some (.slice none 0 0) ∧ x.cell? ⟨db, 4, none⟩ = some (.slice none 0 0) from fun x kx => by
    have hd := HD.out.keep (HB.out.1.then kx)
    exact ⟨by rw [cellIn (kx.heap HB.out.2 (fun h => h))]; rfl, hd 0 _ rfl, hd 1 _ rfl, HP.out ▸ hd 2 _ rfl, hd 3 _ rfl, hd 4 _ rfl⟩)
  have hkd : Keep NoB wb wb.drew := Keep.drew _ _
  obtain ⟨q0, q1, q2, q3, q4, q5⟩ := HX.out _ hkd
  go_region_held3 (fun x => x.cell? ⟨w.heap.size, 4, none⟩ = some (.slice (some ⟨db, 0, none⟩) 1 c) ∧ x.cell? ⟨db, 0, none⟩ = some (.string t) ∧ x.cell? ⟨db, 1, none⟩ = some (.int .i64 8) ∧ x.cell? ⟨db, 2, none⟩ = some (.string P) ∧ x.cell? ⟨db, 3, none⟩ = some (.slice none 0 0) ∧ x.cell? ⟨db, 4, none⟩ = some (.slice none 0 0))
    (first | exact ⟨q0, q1, q2, q3, q4, q5⟩ | exact HX.out _ HY.out.1 | exact HX.out _ ((hkd.then k4).then (Keep.alloc _ _ _)) | exact HX.out _ (hkd.then k4))
    ((first
      | (go_at_call 41; refine (HE.out _).mono ?_; rintro e w4 ⟨rfl, k4⟩)
      | (have hown := World.ownsRow_nil (w4.alloc (.cells #[.string t, .string eK] 79)) wb.heap.size 79 2
         refine step_append_lies _ (by rfl) _ _ _ (by rfl) wb.heap.size 79 iU _ 2 32 Tryz.underlying75 HU.out.1 HU.out.2.1 HU.out.2.2.1 HU.out.2.2.2 rfl (by omega) _ _ [] (by rfl) hown
           ⟨w4.heap.size, 0, none⟩ 1 1 [.string t, .string eK] (by rfl) (by rfl) (World.news_of_block (cs := #[.string t, .string eK]) (t := 79) (fr := (0, 0)) (heap_alloc_new w4 _)) (by simp [Value.oneCell'])
           (by omega) (by unfold maxLen; omega) (by omega) (by have h2 := k4.size; simp at h2; simp; omega) (w4.heap.size + 1) (by simp) ?_
         intro gg cap w5 hown5 hgrow hgat hglt
         have kk5 : Keep NoB wb w5 := ((hkd.then k4).then (Keep.alloc _ _ _)).trans (Keep.grown hgrow (M := fun i => wb.heap.size ≤ i) (fun i hi _ => (World.ownsRow.lt hown i hi).1)) (fun _ _ h => h) (fun i hi h => by omega)
         have HY := Lib.hid (And.intro kk5 hown5)
         clear kk5 hown5 hgrow hgat hglt hown k4)))
  clear q0 q1 q2 q3 q4 q5 hkd
  have hb5 := HY.out.1.heap HB.out.2 (fun h => h)
  have b4 : w5.cell? ⟨w.heap.size, 4, none⟩ = some (.slice (some ⟨db, 0, none⟩) 1 c) := by rw [cellIn hb5]; rfl
  obtain ⟨o0, _, _⟩ := ownsRow_cell (i := 0) HY.out.2 rfl
  obtain ⟨o1, _, _⟩ := ownsRow_cell (i := 1) HY.out.2 rfl
  have HC := Lib.hid (And.intro o0 o1)
  clear hb5 o0 o1
  go_wp2_with fail
  rw [rounds_succ]
  obtain ⟨nk, hnk⟩ : ∃ nk, nk = nilK := ⟨_, rfl⟩
  have hnz : nk.size ≤ 8 := hnk ▸ nilK_size
  have HF0 := Lib.hid (show ∀ x, Calls Tryz.prog 42 #[.string ⟨#[]⟩] x fun e w' => e = .returned (.string nk) ∧ Keep NoB x w' from fun x => hnk ▸ framed_c ⟨#[]⟩ (by decide) x)
  have HNK := Lib.hid hnk
  clear hnk
  go_wp2_with fail
  refine (orderingNil_c _).mono ?_
  rintro e w5' ⟨rfl, hw⟩
  obtain rfl : w5 = w5' := hw.symm
  clear hw
  go_wp2_with fail
  refine (HF0.out _).mono ?_
  rintro e w6 ⟨rfl, k6⟩
  have H6 := Lib.hid k6
  clear k6
  go_wp2_with fail
  refine (orderingNil_c _).mono ?_
  rintro e w6' ⟨rfl, hw⟩
  obtain rfl : w6 = w6' := hw.symm
  clear hw
  go_wp2_with fail
  refine (HF0.out _).mono ?_
  rintro e w7 ⟨rfl, k7⟩
  have H7 := Lib.hid k7
  clear k7
  go_wp2_with fail
  refine (orderingNil_c _).mono ?_
  rintro e w7' ⟨rfl, hw⟩
  obtain rfl : w7 = w7' := hw.symm
  clear hw
  go_wp2_with fail
  refine (HF0.out _).mono ?_
  rintro e w8 ⟨rfl, k8⟩
  have H8 := Lib.hid k8
  clear k8
  have o0 := ((H6.out.then H7.out).then H8.out).cell HC.out.1 (fun h => h)
  have o1 := ((H6.out.then H7.out).then H8.out).cell HC.out.2 (fun h => h)
  have HC2 := Lib.hid (And.intro o0 o1)
  clear o0 o1 b4
  go_wp2_with fail
  refine (ordering1_c (cap := cap) HC2.out.1 HC2.out.2 (by omega) (by omega)).mono ?_
  rintro e w9 ⟨rfl, k9⟩
  obtain ⟨O, hO⟩ : ∃ O, O = frm t ++ frm eK := ⟨_, rfl⟩
  have hOz : O.size ≤ 300 := by
    have h1 := frm_size (s := t) (by omega)
    have h2 := frm_size (s := eK) (by omega)
    rw [hO, ByteArray.size_append]; omega
  rw [← hO]
  have HO := Lib.hid (And.intro hO k9)
  clear hO k9
  have hFO := frm_size (s := O) (by omega)
  obtain ⟨FO, hFOe⟩ : ∃ FO, FO = frm O := ⟨_, rfl⟩
  have HFO := Lib.hid (show ∀ x, Calls Tryz.prog 42 #[.string O] x fun e w' => e = .returned (.string FO) ∧ Keep NoB x w' from fun x => hFOe ▸ framed_c O (by omega) x)
  rw [← hFOe] at hFO
  have HE2 := Lib.hid hFOe
  clear hFOe
  go_wp2_with fail
  refine (HFO.out _).mono ?_
  rintro e w10 ⟨rfl, k10⟩
  have H10 := Lib.hid k10
  clear k10
  go_wp2_with fail
  go_ret
  refine ⟨?_, HB.out.1.then (HY.out.1.then (H6.out.then (H7.out.then (H8.out.then (HO.out.2.then H10.out)))))⟩
  rw [HE2.out, HNK.out, HO.out.1, HEK.out]
  simp only [spK, oneK, declK, if_false, nilK, Bool.false_eq_true]
  rfl
end Go.Proofs.YtjclpmgfcaadmaaGreatDoor
