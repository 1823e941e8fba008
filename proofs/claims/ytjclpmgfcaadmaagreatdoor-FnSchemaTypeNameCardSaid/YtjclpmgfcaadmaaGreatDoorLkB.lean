/- The keys that the law writes of a schema of one declaration: what holds nothing; an entity type with a name alone; a name of a type; one entry. -/
import Derived.Test.YtjclpmgfcaadmaaGreatDoorLkA
import Derived.Test.YtjclpmgfcaadmaaGreatDoorLxH
namespace Go.Proofs.YtjclpmgfcaadmaaGreatDoor
open Go.RowKit

set_option maxRecDepth 100000 in
theorem orderingNil_c (w : World) : Calls Tryz.prog 19 #[.slice none 0 0] w fun e w' => e = .returned (.string ⟨#[]⟩) ∧ w' = w := by
  go_enter Tryz.func19, Tryz.ntmps19
  go_wp2_with fail
  refine wp_loop_once ?_
  go_wp2_with fail
  refine wp_loop_once ?_
  go_wp2_with fail
  go_ret
  exact ⟨rfl, rfl⟩
theorem attrsKeyNil_c (w : World) : Calls Tryz.prog 60 #[.slice none 0 0] w fun e w' => e = .returned (.string ⟨#[]⟩) ∧ w' = w := by
  go_enter Tryz.func60, Tryz.ntmps60
  go_wp2_with fail
  refine wp_loop_once ?_
  go_wp2_with (go_at_call 19; refine (orderingNil_c _).mono ?_; rintro e w' ⟨rfl, rfl⟩)
  go_ret
  exact ⟨rfl, rfl⟩
def nilK : Str := frm ⟨#[]⟩
theorem nilK_size : nilK.size ≤ 8 := frm_size (s := ⟨#[]⟩) (by decide)
theorem namesKeyNil_c (w : World) : Calls Tryz.prog 37 #[.slice none 0 0] w fun e w' => e = .returned (.string nilK) ∧ Keep NoB w w' := by
  have HF := Lib.hid (show ∀ x, Calls Tryz.prog 42 #[.string ⟨#[]⟩] x fun e w' => e = .returned (.string nilK) ∧ Keep NoB x w' from fun x => framed_c ⟨#[]⟩ (by decide) x)
  obtain ⟨K, hK⟩ : ∃ K, K = nilK := ⟨_, rfl⟩
  rw [← hK] at HF ⊢
  clear hK
  go_enter Tryz.func37, Tryz.ntmps37
  go_wp2_with fail
  refine wp_loop_once ?_
  go_wp2_with fail
  refine (HF.out _).mono ?_
  rintro e w1 ⟨rfl, k1⟩
  have H1 := Lib.hid k1
  clear k1
  go_wp2_with fail
  go_ret
  exact ⟨rfl, H1.out⟩
def entK : Str := nilK ++ nilK ++ ⟨#[45]⟩
theorem entK_size : entK.size ≤ 17 := by
  have := nilK_size
  unfold entK
  rw [ByteArray.size_append, ByteArray.size_append]
  have h2 : (⟨#[45]⟩ : Str).size = 1 := rfl
  omega

set_option maxRecDepth 100000 in
set_option maxHeartbeats 16000000 in
theorem entityKey0_c (t : Str) (w : World) :
    Calls Tryz.prog 36 #[.agg #[.string t, .slice none 0 0, .slice none 0 0, .bool false, .int .i64 0, .string ⟨#[]⟩, .slice none 0 0, .slice none 0 0]] w fun en w' => en = .returned (.string entK) ∧ Keep NoB w w' := by
  obtain ⟨nk, hnk⟩ : ∃ nk, nk = nilK := ⟨_, rfl⟩
  have hnz : nk.size ≤ 8 := hnk ▸ nilK_size
  have HN := Lib.hid (show ∀ x, Calls Tryz.prog 37 #[.slice none 0 0] x fun e w' => e = .returned (.string nk) ∧ Keep NoB x w' from fun x => hnk ▸ namesKeyNil_c x)
  have HF := Lib.hid (show ∀ x, Calls Tryz.prog 42 #[.string ⟨#[]⟩] x fun e w' => e = .returned (.string nk) ∧ Keep NoB x w' from fun x => hnk ▸ framed_c ⟨#[]⟩ (by decide) x)
  obtain ⟨wb, hwb⟩ : ∃ wb, wb = w.alloc (.cells #[.string t, .slice none 0 0, .slice none 0 0, .bool false, .int .i64 0, .string ⟨#[]⟩, .slice none 0 0, .slice none 0 0] 41) := ⟨_, rfl⟩
  have kb : Keep NoB w wb := hwb ▸ Keep.alloc _ _ _
  have hbb : wb.heap[w.heap.size]? = some (.cells #[.string t, .slice none 0 0, .slice none 0 0, .bool false, .int .i64 0, .string ⟨#[]⟩, .slice none 0 0, .slice none 0 0] 41 (0, 0)) := hwb ▸ (MapKept.heap_alloc w _).1
  have HX := Lib.hid (show ∀ x, Keep NoB wb x → x.cell? ⟨w.heap.size, 1, none⟩ = some (.slice none 0 0) ∧ x.cell? ⟨w.heap.size, 2, none⟩ = some (.slice none 0 0) ∧ x.cell? ⟨w.heap.size, 3, none⟩ = some (.bool false) from fun x kx => by
    have hbx := kx.heap hbb (fun h => h)
    exact ⟨by rw [cellIn hbx]; rfl, by rw [cellIn hbx]; rfl, by rw [cellIn hbx]; rfl⟩)
  have HA := Lib.hid (And.intro hnk kb)
  clear hnk kb hbb
  have hs1 : ¬ 9223372036854775807 < nk.size + nk.size := by omega
  have hs2 : ¬ 9223372036854775807 < nk.size + nk.size + (flagS false).size := by have : (flagS false).size = 1 := rfl; omega
  go_enter Tryz.func36, Tryz.ntmps36
  go_upto_region 1 with fail
  rw [← hwb]
  clear hwb
  have hK0 : Keep NoB wb wb.drew := Keep.drew _ _
  have hq := HX.out _ hK0
  obtain ⟨q1, q2, q3⟩ := hq
  go_region_held3 (fun x => Keep NoB wb x ∧ x.cell? ⟨w.heap.size, 1, none⟩ = some (.slice none 0 0) ∧ x.cell? ⟨w.heap.size, 2, none⟩ = some (.slice none 0 0) ∧ x.cell? ⟨w.heap.size, 3, none⟩ = some (.bool false))
    (with_reducible (first
      | exact ⟨kwA, HX.out _ kwA⟩
      | exact ⟨hK0, HX.out _ hK0⟩
      | assumption))
    ((first
      | (go_at_call 37
         refine (HN.out _).mono ?_
         rintro e w4 ⟨rfl, k4⟩
         have kwA : Keep NoB wb w4 := Keep.then (by go_split_ands; assumption) k4)
      | (go_at_call 60
         refine (attrsKeyNil_c _).mono ?_
         rintro e w4 ⟨rfl, hw4⟩
         subst hw4
         have kwA : Keep NoB wb w4 := (by go_split_ands; assumption))
      | (go_at_call 42
         refine (HF.out _).mono ?_
         rintro e w4 ⟨rfl, k4⟩
         have kwA : Keep NoB wb w4 := Keep.then (by go_split_ands; assumption) k4)
      | (go_at_call 39
         refine (flag_c false _).mono ?_
         rintro e w4 ⟨rfl, hw4⟩
         subst hw4
         have kwA : Keep NoB wb w4 := (by go_split_ands; assumption))))
  have KA := Lib.hid kwA
  obtain ⟨r1, r2, r3⟩ := HX.out _ KA.out
  clear kwA k4 hK0 q1 q2 q3 hs1 hs2
  go_wp2_with fail
  go_ret
  refine ⟨?_, HA.out.2.then KA.out⟩
  rw [HA.out.1]
  rfl
theorem typeKey8_c (s : Str) (hs : s.size ≤ 1000) (w : World) :
    Calls Tryz.prog 41 #[.agg #[.int .i64 8, .string s, .slice none 0 0, .slice none 0 0]] w fun en w' => en = .returned (.string (digS 8 1 ++ frm s)) ∧ Keep NoB w w' := by
  obtain ⟨D, hD⟩ : ∃ D, D = digS 8 1 := ⟨_, rfl⟩
  have hDz : D.size ≤ 9 := by
    have : (digS 8 1).size = (dig 8 1).length := rfl
    have := dig_len 8 1
    rw [hD]; omega
  have hfz := frm_size (s := s) (by omega)
  obtain ⟨F, hF⟩ : ∃ F, F = frm s := ⟨_, rfl⟩
  rw [← hF] at hfz
  have HD := Lib.hid (show ∀ x, Calls Tryz.prog 61 #[.int .u64 8, .int .i64 1] x fun e w' => e = .returned (.string D) ∧ Keep NoB x w' from fun x => hD ▸ digits_c 8 1 (by decide) (by decide) x)
  have HF := Lib.hid (show ∀ x, Calls Tryz.prog 42 #[.string s] x fun e w' => e = .returned (.string F) ∧ Keep NoB x w' from fun x => hF ▸ framed_c s (by omega) x)
  rw [← hD, ← hF]
  have HE := Lib.hid (And.intro hD hF)
  clear hD hF
  have hb := (MapKept.heap_alloc w (.cells #[.int .i64 8, .string s, .slice none 0 0, .slice none 0 0] 30)).1
  have HB := Lib.hid hb
  clear hb
  go_enter Tryz.func41, Tryz.ntmps41
  go_wp2_with fail
  refine (HD.out _).mono ?_
  rintro e w1 ⟨rfl, k1⟩
  have hb1 := k1.heap HB.out (fun h => h)
  have c0 : w1.cell? ⟨w.heap.size, 0, none⟩ = some (.int .i64 8) := by rw [cellIn hb1]; rfl
  have c1 : w1.cell? ⟨w.heap.size, 1, none⟩ = some (.string s) := by rw [cellIn hb1]; rfl
  have H1 := Lib.hid k1
  clear k1 hb1
  go_wp2_with fail
  refine (HF.out _).mono ?_
  rintro e w2 ⟨rfl, k2⟩
  have H2 := Lib.hid k2
  clear k2
  go_wp2_with fail
  go_ret
  exact ⟨rfl, (Keep.alloc _ _ NoB).then (H1.out.then H2.out)⟩
end Go.Proofs.YtjclpmgfcaadmaaGreatDoor
