/- The law's key of a schema of one namespace of one declaration. -/
import Derived.Test.YtjclpmgfcaadmaaGreatDoorLkD
namespace Go.Proofs.YtjclpmgfcaadmaaGreatDoor
open Go.RowKit

set_option maxRecDepth 100000 in
set_option maxHeartbeats 4000000 in
theorem bareSpace_c (b : Bool) (db c : Nat) (w : World) : Calls Tryz.prog 17 #[.agg (spCs b db c).toArray] w fun e w' => e = .returned (.bool false) ∧ Keep NoB w w' := by
  cases b
  · show Calls Tryz.prog 17 #[.agg #[.string ⟨#[]⟩, .slice none 0 0, .slice none 0 0, .slice none 0 0, .slice (some ⟨db, 0, none⟩) 1 c]] w _
    go_enter Tryz.func17, Tryz.ntmps17
    go_wp2_with fail
    go_ret
    exact ⟨rfl, Keep.alloc _ _ _⟩
  · show Calls Tryz.prog 17 #[.agg #[.string ⟨#[]⟩, .slice (some ⟨db, 0, none⟩) 1 c, .slice none 0 0, .slice none 0 0, .slice none 0 0]] w _
    go_enter Tryz.func17, Tryz.ntmps17
    go_wp2_with fail
    go_ret
    exact ⟨rfl, Keep.alloc _ _ _⟩
theorem spaceKey_c {b : Bool} {w : World} {db c : Nat} {t : Str} (h : DeclAt w b t db) (ht : t.size ≤ 200) :
    Calls Tryz.prog 18 #[.agg (spCs b db c).toArray] w fun e w' => e = .returned (.string (spK b t)) ∧ Keep NoB w w' := by
  cases b
  · exact spaceKeyCom_c h ht
  · exact spaceKeyEnt_c h ht
theorem spK_size (b : Bool) (t : Str) (ht : t.size ≤ 200) : (spK b t).size ≤ 1000 := by
  have h0 := nilK_size
  have h1 : (oneK b t).size ≤ 300 := by
    have h1 := frm_size (s := t) (by omega)
    have h2 : (declK b).size ≤ 50 := by
      cases b
      · exact comK_size
      · have := entK_size; show entK.size ≤ 50; omega
    have h3 := frm_size (s := declK b) (by omega)
    unfold oneK
    rw [ByteArray.size_append]; omega
  have h2 := frm_size (s := oneK b t) (by omega)
  have h3 := frm_size (s := ⟨#[]⟩) (by decide)
  have h4 : (⟨#[]⟩ : Str).size = 0 := rfl
  unfold spK
  cases b <;> simp only [ByteArray.size_append, if_true, if_false, Bool.false_eq_true] <;> omega
/-- A schema of one namespace of one declaration, as a row of one element. -/
def SpaceAt (w : World) (b : Bool) (t : Str) (nb : Nat) : Prop := ∃ db c, DeclAt w b t db ∧ ∀ j v, (spCs b db c)[j]? = some v → w.cell? ⟨nb, j, none⟩ = some v
theorem SpaceAt.keep {w w' : World} {b : Bool} {t : Str} {nb : Nat} (h : SpaceAt w b t nb) (k : Keep NoB w w') : SpaceAt w' b t nb := by
  obtain ⟨db, c, h1, h2⟩ := h
  exact ⟨db, c, h1.keep k, fun j v hj => k.cell (h2 j v hj) (fun h => h)⟩
theorem spCs_five (b : Bool) (db c : Nat) : ∃ s1 s2 s3 s4 : Value, spCs b db c = [.string ⟨#[]⟩, s1, s2, s3, s4] ∧ (∀ v ∈ [s1, s2, s3, s4], ∃ o n c, v = .slice o n c) := by
  cases b
  · exact ⟨_, _, _, _, rfl, by simp⟩
  · exact ⟨_, _, _, _, rfl, by simp⟩

set_option maxRecDepth 100000 in
set_option maxHeartbeats 16000000 in
theorem schemaKey1_c {b : Bool} {w : World} {nb cap0 : Nat} {t : Str} (h : SpaceAt w b t nb) (ht : t.size ≤ 200) :
    Calls Tryz.prog 8 #[.slice (some ⟨nb, 0, none⟩) 1 cap0] w fun e w' => e = .returned (.string (schK b t)) ∧ Keep NoB w w' := by
  obtain ⟨iU, hiU, hzU, hsU, hbU⟩ := info_parts infoEntry
  have HU := Lib.hid (And.intro hiU (And.intro hzU (And.intro hsU hbU)))
  obtain ⟨db, c, hd, hn⟩ := h
  obtain ⟨s1, s2, s3, s4, hs5, _⟩ := spCs_five b db c
  obtain ⟨sk, hsk⟩ : ∃ sk, sk = spK b t := ⟨_, rfl⟩
  have hsz : sk.size ≤ 1000 := hsk ▸ spK_size b t ht
  have HB := Lib.hid (show ∀ x, Calls Tryz.prog 17 #[.agg #[.string ⟨#[]⟩, s1, s2, s3, s4]] x fun e w' => e = .returned (.bool false) ∧ Keep NoB x w' from fun x => by
    have := bareSpace_c b db c x
    rw [hs5] at this
    exact this)
  have HS := Lib.hid (show ∀ x, Keep NoB w x → Calls Tryz.prog 18 #[.agg #[.string ⟨#[]⟩, s1, s2, s3, s4]] x fun e w' => e = .returned (.string sk) ∧ Keep NoB x w' from fun x kx => by
    have := spaceKey_c (c := c) (hd.keep kx) ht
    rw [hs5, ← hsk] at this
    exact this)
  have HX := Lib.hid (show ∀ x, Keep NoB w x → x.cell? ⟨nb, 0, none⟩ = some (.string ⟨#[]⟩) ∧ x.cell? ⟨nb, 1, none⟩ = some s1 ∧ x.cell? ⟨nb, 2, none⟩ = some s2 ∧ x.cell? ⟨nb, 3, none⟩ = some s3 ∧ x.cell? ⟨nb, 4, none⟩ = some s4 from fun x kx => by
    rw [hs5] at hn
    exact ⟨kx.cell (hn 0 _ rfl) (fun h => h), kx.cell (hn 1 _ rfl) (fun h => h), kx.cell (hn 2 _ rfl) (fun h => h), kx.cell (hn 3 _ rfl) (fun h => h), kx.cell (hn 4 _ rfl) (fun h => h)⟩)
  have HE := Lib.hid hsk
  clear hd hn hs5 hsk hiU hzU hsU hbU
  obtain ⟨p0, p1, p2, p3, p4⟩ := HX.out w (Keep.refl _ _)
  go_enter Tryz.func8, Tryz.ntmps8
  go_wp2_with fail
  refine wp_loop_rounds 2 ?_
  rw [rounds_succ]
  go_wp2_with fail
  refine (HB.out _).mono ?_
  rintro e w1 ⟨rfl, k1⟩
  have H1 := Lib.hid k1
  clear k1 p0 p1 p2 p3 p4
  go_upto_region 6 with fail
  have hkd : Keep NoB w w1.drew := H1.out.then (Keep.drew _ _)
  obtain ⟨p0, p1, p2, p3, p4⟩ := HX.out _ hkd
  go_region_held3 (fun x => x.cell? ⟨nb, 0, none⟩ = some (.string ⟨#[]⟩) ∧ x.cell? ⟨nb, 1, none⟩ = some s1 ∧ x.cell? ⟨nb, 2, none⟩ = some s2 ∧ x.cell? ⟨nb, 3, none⟩ = some s3 ∧ x.cell? ⟨nb, 4, none⟩ = some s4)
    (first | exact ⟨p0, p1, p2, p3, p4⟩ | exact HX.out _ HY.out.1 | exact HX.out _ ((hkd.then k4).then (Keep.alloc _ _ _)) | exact HX.out _ (hkd.then k4))
    ((first
      | (go_at_call 18; refine (HS.out _ hkd).mono ?_; rintro e w4 ⟨rfl, k4⟩)
      | (have hown := World.ownsRow_nil (w4.alloc (.cells #[.string ⟨#[]⟩, .string sk] 79)) w.heap.size 79 2
         refine step_append_lies _ (by rfl) _ _ _ (by rfl) w.heap.size 79 iU _ 2 32 Tryz.underlying75 HU.out.1 HU.out.2.1 HU.out.2.2.1 HU.out.2.2.2 rfl (by omega) _ _ [] (by rfl) hown
           ⟨w4.heap.size, 0, none⟩ 1 1 [.string ⟨#[]⟩, .string sk] (by rfl) (by rfl) (World.news_of_block (cs := #[.string ⟨#[]⟩, .string sk]) (t := 79) (fr := (0, 0)) (heap_alloc_new w4 _)) (by simp [Value.oneCell'])
           (by omega) (by unfold maxLen; omega) (by omega) (by have h2 := (hkd.then k4).size; rw [World.size_alloc]; omega) (w4.heap.size + 1) (by simp) ?_
         intro gg cap w5 hown5 hgrow hgat hglt
         have kk5 : Keep NoB w w5 := ((hkd.then k4).then (Keep.alloc _ _ _)).trans (Keep.grown hgrow (M := fun i => w.heap.size ≤ i) (fun i hi _ => (World.ownsRow.lt hown i hi).1)) (fun _ _ h => h) (fun i hi h => by omega)
         have HY := Lib.hid (And.intro kk5 hown5)
         clear kk5 hown5 hgrow hgat hglt hown k4)))
  clear p0 p1 p2 p3 p4 hkd
  obtain ⟨o0, _, _⟩ := ownsRow_cell (i := 0) HY.out.2 rfl
  obtain ⟨o1, _, _⟩ := ownsRow_cell (i := 1) HY.out.2 rfl
  have HC := Lib.hid (And.intro o0 o1)
  clear o0 o1
  go_wp2_with fail
  rw [rounds_succ]
  go_wp2_with fail
  refine (ordering1_c (cap := cap) HC.out.1 HC.out.2 (by decide) (by omega)).mono ?_
  rintro e w6 ⟨rfl, k6⟩
  have H6 := Lib.hid k6
  clear k6
  obtain ⟨O, hO⟩ : ∃ O, O = frm (⟨#[]⟩ : Str) ++ frm sk := ⟨_, rfl⟩
  rw [← hO]
  have HO := Lib.hid hO
  clear hO
  go_wp2_with fail
  go_ret
  refine ⟨?_, HY.out.1.then H6.out⟩
  rw [HO.out, HE.out]
  rfl
end Go.Proofs.YtjclpmgfcaadmaaGreatDoor
