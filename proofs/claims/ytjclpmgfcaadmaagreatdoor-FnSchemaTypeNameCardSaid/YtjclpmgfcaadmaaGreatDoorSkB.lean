/- impl.plainSpace on a namespace of one declaration. -/
import Derived.Test.YtjclpmgfcaadmaaGreatDoorSkA
import Derived.Deep.DeepCutAuto
import Derived.Deep.CutRange
namespace Go.Proofs.YtjclpmgfcaadmaaGreatDoor
open Go.RowKit Go.Shelf

def outNs (b : Bool) (db c : Nat) : Value := .agg (spCs b db c).toArray
theorem infoIEntD : (Tryz.prog.info? 41).map (fun i => (i.zero, i.size, i.bytes)) = some (some (.agg #[.string ⟨#[]⟩, .slice none 0 0, .slice none 0 0, .bool false, .int .i64 0, .string ⟨#[]⟩, .slice none 0 0, .slice none 0 0]), 8, 144) := by kernel_rfl
theorem infoICom : (Tryz.prog.info? 32).map (fun i => (i.zero, i.size, i.bytes)) = some (some (.agg #[.string ⟨#[]⟩, .int .i64 0, .string ⟨#[]⟩, .slice none 0 0, .slice none 0 0]), 5, 88) := by kernel_rfl

theorem frozenIn {w : World} {b : Nat} {cs : Array Value} {e : TypeId} (h : w.heap[b]? = some (.cells cs e (0, 0))) (i : Nat) : w.frozen? ⟨b, i, none⟩ = false := by
  simp [World.frozen?, h]
theorem set8 (w : World) (b : Nat) (T : TypeId) (v0 v1 v2 v3 v4 v5 v6 v7 : Value) {a0 a1 a2 a3 a4 a5 a6 a7 : Value} (h : w.heap[b]? = some (.cells #[a0, a1, a2, a3, a4, a5, a6, a7] T (0, 0))) :
    ∃ wz, wz = ((((((((w.setCell ⟨b, 0, none⟩ v0).setCell ⟨b, 1, none⟩ v1).setCell ⟨b, 2, none⟩ v2).setCell ⟨b, 3, none⟩ v3).setCell ⟨b, 4, none⟩ v4).setCell ⟨b, 5, none⟩ v5).setCell ⟨b, 6, none⟩ v6).setCell ⟨b, 7, none⟩ v7) ∧ Keep (· = b) w wz ∧ wz.heap[b]? = some (.cells #[v0, v1, v2, v3, v4, v5, v6, v7] T (0, 0)) := by
  have kst : ∀ (u : World) (i : Nat) (v : Value), Keep (· = b) u (u.setCell ⟨b, i, none⟩ v) := fun u i v => Keep.setCell _ _ _ (fun _ => rfl)
  have kj : ∀ {u v x : World}, Keep (· = b) u v → Keep (· = b) v x → Keep (· = b) u x := fun h1 h2 => h1.trans h2 (fun _ _ h => h) (fun _ _ h => h)
  have h0 : (w.setCell ⟨b, 0, none⟩ v0).heap[b]? = some (.cells #[v0, a1, a2, a3, a4, a5, a6, a7] T (0, 0)) := setCell_lex h 0 v0
  have h1 : ((w.setCell ⟨b, 0, none⟩ v0).setCell ⟨b, 1, none⟩ v1).heap[b]? = some (.cells #[v0, v1, a2, a3, a4, a5, a6, a7] T (0, 0)) := setCell_lex h0 1 v1
  have h2 : (((w.setCell ⟨b, 0, none⟩ v0).setCell ⟨b, 1, none⟩ v1).setCell ⟨b, 2, none⟩ v2).heap[b]? = some (.cells #[v0, v1, v2, a3, a4, a5, a6, a7] T (0, 0)) := setCell_lex h1 2 v2
  have h3 : ((((w.setCell ⟨b, 0, none⟩ v0).setCell ⟨b, 1, none⟩ v1).setCell ⟨b, 2, none⟩ v2).setCell ⟨b, 3, none⟩ v3).heap[b]? = some (.cells #[v0, v1, v2, v3, a4, a5, a6, a7] T (0, 0)) := setCell_lex h2 3 v3
  have h4 : (((((w.setCell ⟨b, 0, none⟩ v0).setCell ⟨b, 1, none⟩ v1).setCell ⟨b, 2, none⟩ v2).setCell ⟨b, 3, none⟩ v3).setCell ⟨b, 4, none⟩ v4).heap[b]? = some (.cells #[v0, v1, v2, v3, v4, a5, a6, a7] T (0, 0)) := setCell_lex h3 4 v4
  have h5 : ((((((w.setCell ⟨b, 0, none⟩ v0).setCell ⟨b, 1, none⟩ v1).setCell ⟨b, 2, none⟩ v2).setCell ⟨b, 3, none⟩ v3).setCell ⟨b, 4, none⟩ v4).setCell ⟨b, 5, none⟩ v5).heap[b]? = some (.cells #[v0, v1, v2, v3, v4, v5, a6, a7] T (0, 0)) := setCell_lex h4 5 v5
  have h6 : (((((((w.setCell ⟨b, 0, none⟩ v0).setCell ⟨b, 1, none⟩ v1).setCell ⟨b, 2, none⟩ v2).setCell ⟨b, 3, none⟩ v3).setCell ⟨b, 4, none⟩ v4).setCell ⟨b, 5, none⟩ v5).setCell ⟨b, 6, none⟩ v6).heap[b]? = some (.cells #[v0, v1, v2, v3, v4, v5, v6, a7] T (0, 0)) := setCell_lex h5 6 v6
  have h7 : ((((((((w.setCell ⟨b, 0, none⟩ v0).setCell ⟨b, 1, none⟩ v1).setCell ⟨b, 2, none⟩ v2).setCell ⟨b, 3, none⟩ v3).setCell ⟨b, 4, none⟩ v4).setCell ⟨b, 5, none⟩ v5).setCell ⟨b, 6, none⟩ v6).setCell ⟨b, 7, none⟩ v7).heap[b]? = some (.cells #[v0, v1, v2, v3, v4, v5, v6, v7] T (0, 0)) := setCell_lex h6 7 v7
  exact ⟨_, rfl, kj (kj (kj (kj (kj (kj (kj (kst w 0 v0) (kst _ 1 v1)) (kst _ 2 v2)) (kst _ 3 v3)) (kst _ 4 v4)) (kst _ 5 v5)) (kst _ 6 v6)) (kst _ 7 v7), h7⟩
theorem cells8 {w : World} {b : Nat} {T : TypeId} {a0 a1 a2 a3 a4 a5 a6 a7 : Value} (h : w.heap[b]? = some (.cells #[a0, a1, a2, a3, a4, a5, a6, a7] T (0, 0))) :
    w.cell? ⟨b, 0, none⟩ = some a0 ∧ w.cell? ⟨b, 1, none⟩ = some a1 ∧ w.cell? ⟨b, 2, none⟩ = some a2 ∧ w.cell? ⟨b, 3, none⟩ = some a3 ∧ w.cell? ⟨b, 4, none⟩ = some a4 ∧ w.cell? ⟨b, 5, none⟩ = some a5 ∧ w.cell? ⟨b, 6, none⟩ = some a6 ∧ w.cell? ⟨b, 7, none⟩ = some a7 ∧ w.frozen? ⟨b, 0, none⟩ = false ∧ w.frozen? ⟨b, 1, none⟩ = false ∧ w.frozen? ⟨b, 2, none⟩ = false ∧ w.frozen? ⟨b, 3, none⟩ = false ∧ w.frozen? ⟨b, 4, none⟩ = false ∧ w.frozen? ⟨b, 5, none⟩ = false ∧ w.frozen? ⟨b, 6, none⟩ = false ∧ w.frozen? ⟨b, 7, none⟩ = false :=
  ⟨by rw [cellIn h]; rfl, by rw [cellIn h]; rfl, by rw [cellIn h]; rfl, by rw [cellIn h]; rfl, by rw [cellIn h]; rfl, by rw [cellIn h]; rfl, by rw [cellIn h]; rfl, by rw [cellIn h]; rfl, frozenIn h 0, frozenIn h 1, frozenIn h 2, frozenIn h 3, frozenIn h 4, frozenIn h 5, frozenIn h 6, frozenIn h 7⟩

theorem heap_alloc1 {w w' : World} {O : Obj} (k : Keep NoB (w.alloc O) w') : w'.heap[w.heap.size]? = some O := k.heap (MapKept.heap_alloc _ _).1 (fun h => h)
theorem heap_alloc2 {w w' : World} {O : Obj} (k : Keep NoB (w.alloc O).drew w') : w'.heap[w.heap.size]? = some O := k.heap (MapKept.heap_alloc w O).1 (fun h => h)
theorem heap_again {w w' : World} {O : Obj} {d : Nat} (k : Keep NoB w w') (h : w.heap[d]? = some O) : w'.heap[d]? = some O := k.heap h (fun h => h)

theorem keepLate {wA w : World} {d i : Nat} {v : Value} (h : Keep NoB wA w) (hd : wA.heap.size ≤ d) : Keep NoB wA (w.setCell ⟨d, i, none⟩ v) :=
  h.trans (Keep.setCell (M := (· = d)) _ _ _ (fun _ => rfl)) (fun _ _ h => h) (fun i hi h => by omega)


set_option maxRecDepth 100000 in
set_option maxHeartbeats 16000000 in
theorem plainSpaceEnt_c {w : World} {m : Nat} {t : Str} (h : KMap Value.string w m [(t, entV)]) (ht : t.size ≤ 200) :
    Calls Tryz.prog 14 #[.string ⟨#[]⟩, .agg #[.map none, .map (some m), .map none, .map none, .map none]] w fun e w' => (∃ db c, e = .returned (outNs true db c) ∧ DeclAt w' true t db) ∧ Keep NoB w w' := by
  obtain ⟨iU, hiU, hzU, hsU, hbU⟩ := info_parts infoIEntD
  have HU := Lib.hid (And.intro hiU (And.intro hzU (And.intro hsU hbU)))
  have HM := Lib.hid h
  clear hiU hzU hsU hbU h
  go_enter Tryz.func14, Tryz.ntmps14
  go_wp2_with fail
  obtain ⟨w3, hw3⟩ : ∃ x, x = ((w.alloc (.cells #[.map none, .map (some m), .map none, .map none, .map none] 68)).alloc (.cells #[.string ⟨#[]⟩, .slice none 0 0, .slice none 0 0, .slice none 0 0, .slice none 0 0] 38)).alloc (.cells #[.string ⟨#[]⟩, .slice none 0 0, .slice none 0 0, .slice none 0 0, .slice none 0 0] 38) := ⟨_, rfl⟩
  have k3 : Keep NoB w w3 := hw3 ▸ (((Keep.alloc w _ NoB).then (Keep.alloc _ _ NoB)).then (Keep.alloc _ _ NoB))
  have hbA : w3.heap[w.heap.size]? = some (.cells #[.map none, .map (some m), .map none, .map none, .map none] 68 (0, 0)) := hw3 ▸ ((Keep.alloc _ _ NoB).then (Keep.alloc _ _ NoB)).heap (MapKept.heap_alloc w _).1 (fun h => h)
  have hbR : w3.heap[w.heap.size + 1]? = some (.cells #[.string ⟨#[]⟩, .slice none 0 0, .slice none 0 0, .slice none 0 0, .slice none 0 0] 38 (0, 0)) := by
    have h := (Keep.alloc ((w.alloc (.cells #[.map none, .map (some m), .map none, .map none, .map none] 68)).alloc (.cells #[.string ⟨#[]⟩, .slice none 0 0, .slice none 0 0, .slice none 0 0, .slice none 0 0] 38)) (.cells #[.string ⟨#[]⟩, .slice none 0 0, .slice none 0 0, .slice none 0 0, .slice none 0 0] 38) NoB).heap (MapKept.heap_alloc (w.alloc (.cells #[.map none, .map (some m), .map none, .map none, .map none] 68)) _).1 (fun h => h)
    rw [World.size_alloc, ← hw3] at h
    exact h
  have hbO : w3.heap[w.heap.size + 1 + 1]? = some (.cells #[.string ⟨#[]⟩, .slice none 0 0, .slice none 0 0, .slice none 0 0, .slice none 0 0] 38 (0, 0)) := by
    have h := (MapKept.heap_alloc ((w.alloc (.cells #[.map none, .map (some m), .map none, .map none, .map none] 68)).alloc (.cells #[.string ⟨#[]⟩, .slice none 0 0, .slice none 0 0, .slice none 0 0, .slice none 0 0] 38)) (.cells #[.string ⟨#[]⟩, .slice none 0 0, .slice none 0 0, .slice none 0 0, .slice none 0 0] 38)).1
    rw [World.size_alloc, World.size_alloc, ← hw3] at h
    exact h
  have hz3 : w3.heap.size = w.heap.size + 1 + 1 + 1 := by rw [hw3, World.size_alloc, World.size_alloc, World.size_alloc]
  rw [← hw3]
  clear hw3
  have H3 := Lib.hid (And.intro k3 (And.intro hbA (And.intro hbR (And.intro hbO hz3))))
  have HS := Lib.hid (sortedEnts1_c (HM.out.keep k3 (fun h => h)) (by omega))
  clear k3 hbA hbR hbO hz3
  refine (callsIn_wide.1 (Tryz.maps_Keys_25 (some m) w3)).mono ?_
  rintro e w4 ⟨rfl, rfl⟩
  go_wp2_with fail
  refine HS.out.mono ?_
  rintro e w5 ⟨b, c, hv, hb5, k5⟩
  obtain rfl := hv
  have hm5 := HM.out.keep (H3.out.1.then k5) (fun h => h)
  have hA5 := k5.heap H3.out.2.1 (fun h => h)
  have a1 : w5.cell? ⟨w.heap.size, 1, none⟩ = some (.map (some m)) := by rw [cellIn hA5]; rfl
  have hlk := hm5.lookup (strKey Tryz.underlying86) Tryz.underlying53 (zeroAEnt w5) t false
  rw [show kget [(t, entV)] t = some entV from kget_mem (by simp) (by simp)] at hlk
  simp only [Option.getD_some, Bool.false_eq_true, if_false, entV] at hlk
  have H5 := Lib.hid k5
  clear hm5 hA5 k5
  go_wp2_with fail
  refine wp_loop_rounds 2 ?_
  rw [rounds_succ]
  go_upto_region 6 with fail
  clear hlk a1 hb5
  obtain ⟨wA, hwA⟩ : ∃ x, x = w5.alloc (.cells #[.map none, .slice none 0 0, .map none, .nilIface] 96) := ⟨_, rfl⟩
  have kA : Keep NoB w5 wA := hwA ▸ Keep.alloc _ _ _
  have hbA : wA.heap[w5.heap.size]? = some (.cells #[.map none, .slice none 0 0, .map none, .nilIface] 96 (0, 0)) := hwA ▸ (MapKept.heap_alloc w5 _).1
  rw [← hwA]
  clear hwA
  have HQ4 := Lib.hid (show ∀ x, Keep NoB wA x → x.cell? ⟨w5.heap.size, 1, none⟩ = some (.slice none 0 0) ∧ x.cell? ⟨w5.heap.size, 2, none⟩ = some (.map none) ∧ x.cell? ⟨w5.heap.size, 3, none⟩ = some .nilIface from fun x kx => by
    have hbx := kx.heap hbA (fun h => h)
    exact ⟨by rw [cellIn hbx]; rfl, by rw [cellIn hbx]; rfl, by rw [cellIn hbx]; rfl⟩)
  have HKA := Lib.hid kA
  obtain ⟨q2, q3, q4⟩ := HQ4.out wA.drew (Keep.drew _ _)
  clear kA hbA
  go_cut [9, 30] from 30 to 61 (fun s9 s30 wx => s30 = .int .i64 0 ∧ ∃ (d : Nat), s9 = .pointer (some ⟨d, 0, none⟩) ∧ wA.heap.size ≤ d ∧ Keep NoB wA wx ∧ wx.heap[d]? = some (.cells #[.string t, .slice none 0 0, .slice none 0 0, .bool false, .int .i64 0, .string ⟨#[]⟩, .slice none 0 0, .slice none 0 0] 41 (0, 0)))
  case first =>
    have hKA : Keep NoB wA wA.drew := Keep.drew _ _
    go_region_held3 (fun x => Keep NoB wA x ∧ x.cell? ⟨w5.heap.size, 1, none⟩ = some (.slice none 0 0) ∧ x.cell? ⟨w5.heap.size, 2, none⟩ = some (.map none) ∧ x.cell? ⟨w5.heap.size, 3, none⟩ = some .nilIface)
      (with_reducible (first
        | (refine (fun hh => ⟨hh, HQ4.out _ hh⟩) ?_; (repeat (refine keepLate ?_ (by first | exact Nat.le_refl _ | exact kw5.size))); exact kw5)
        | exact ⟨(kw5.then (Keep.alloc _ _ _)), HQ4.out _ (kw5.then (Keep.alloc _ _ _))⟩
        | exact ⟨(hKA.then (Keep.alloc _ _ _)), HQ4.out _ (hKA.then (Keep.alloc _ _ _))⟩
        | exact ⟨hKA, q2, q3, q4⟩
        | assumption))
      ((first
        | (go_at_call 26
           refine (plainNamesNil_c _).mono ?_
           rintro e w4 ⟨rfl, hw4⟩
           subst hw4)
        | (go_at_call 27
           refine (plainAttrsNil_c _).mono ?_
           rintro e w5' ⟨rfl, k5⟩
           have kw5 : Keep NoB wA w5' := Keep.then (by go_split_ands; assumption) k5
           (first | (with_reducible have hd := heap_alloc1 k5) | (with_reducible have hd := heap_alloc2 k5) | skip)
           (first | (have hcd := cells8 hd; obtain ⟨e0, e1, e2, e3, e4, e5, e6, e7, z0, z1, z2, z3, z4, z5, z6, z7⟩ := hcd) | skip))))
    all_goals first
      | (obtain ⟨wz, hwz, kz, hz⟩ := set8 w5' wA.heap.size 41 (.string t) (.slice none 0 0) (.slice none 0 0) (.bool false) (.int .i64 0) (.string ⟨#[]⟩) (.slice none 0 0) (.slice none 0 0) hd
         rw [← hwz]
         have HZ := Lib.hid (And.intro kw5 (And.intro kz hz))
         clear q2 q3 q4 hKA k5 kw5 hwz kz hz hd e0 e1 e2 e3 e4 e5 e6 e7 z0 z1 z2 z3 z4 z5 z6 z7
         go_wp2_with fail
         go_meet
         case rel =>
           obtain ⟨kw5, kz, hz⟩ := HZ.out
           exact ⟨rfl, _, rfl, Nat.le_refl _, kw5.trans kz (fun _ _ h => h) (fun i hi h => by omega), hz⟩)
      | (have HZ := Lib.hid kw5
         clear q2 q3 q4 hKA k5 kw5
         go_wp2_with fail
         go_meet
         case rel => exact ⟨rfl, _, rfl, HZ.out.size, HZ.out.then (Keep.alloc _ _ NoB), (MapKept.heap_alloc _ _).1⟩)
  case rest =>
    obtain ⟨rfl, d, rfl, hdl, kd, hd⟩ := hcut
    obtain ⟨k3, hbP, hbR, hbO, hz3⟩ := H3.out
    have k35 := H5.out.then (HKA.out.then kd)
    have hO := k35.heap hbO (fun h => h)
    have hA := k35.heap hbP (fun h => h)
    have hR := k35.heap hbR (fun h => h)
    obtain ⟨e0, e1, e2, e3, e4, e5, e6, e7, _⟩ := cells8 hd
    have o1 : wc.cell? ⟨w.heap.size + 1 + 1, 1, none⟩ = some (.slice none 0 0) := by rw [cellIn hO]; rfl
    have oz := frozenIn hO 1
    have hszd := (HKA.out.size)
    have hsz5 := H5.out.size
    have hszc := kd.size
    have HC := Lib.hid (And.intro k35 (And.intro hO (And.intro hA (And.intro hR (And.intro hd (And.intro k3 (And.intro hz3 (And.intro hdl (And.intro hszd (And.intro hsz5 hszc))))))))))
    clear k3 hbP hbR hbO hz3 k35 hO hA hR hd hdl kd hszd hsz5 hszc
    go_wp2_with (at_builtin
                 have hown := World.ownsRow_nil (wc.alloc (.cells #[.string t, .slice none 0 0, .slice none 0 0, .bool false, .int .i64 0, .string ⟨#[]⟩, .slice none 0 0, .slice none 0 0] 41)) wc.heap.size 41 8
                 refine wpList_append_lies _ rfl _ _ 34 rfl wc.heap.size 41 iU _ 8 144 Tryz.underlying34 HU.out.1 HU.out.2.1 HU.out.2.2.1 HU.out.2.2.2 rfl (by omega) (.slice none 0 0) 0 [] rfl hown ⟨wc.heap.size, 0, none⟩ 1 1 [.string t, .slice none 0 0, .slice none 0 0, .bool false, .int .i64 0, .string ⟨#[]⟩, .slice none 0 0, .slice none 0 0] rfl rfl
                   (World.news_of_block (cs := #[.string t, .slice none 0 0, .slice none 0 0, .bool false, .int .i64 0, .string ⟨#[]⟩, .slice none 0 0, .slice none 0 0]) (t := 41) (fr := (0, 0)) (heap_alloc_new wc _)) (by simp [Value.oneCell']) (by omega) (by unfold maxLen; omega) (by omega) ?c5 (wc.heap.size + 1) (by simp) ?_
                 case c5 => rw [World.size_alloc]; omega
                 intro gg cp w8 hown8 hgrow hgat hglt
                 have kk : Keep NoB wc w8 := (Keep.alloc wc _ NoB).trans (Keep.grown hgrow (M := fun i => wc.heap.size ≤ i) (fun i hi _ => (World.ownsRow.lt hown i hi).1)) (fun _ _ h => h) (fun i hi h => by omega)
                 have HX8 := Lib.hid (And.intro hown8 kk)
                 have o8 := kk.heap HC.out.2.1 (fun h => h)
                 have o81 : w8.cell? ⟨w.heap.size + 1 + 1, 1, none⟩ = some (.slice none 0 0) := by rw [cellIn o8]; rfl
                 have o8z := frozenIn o8 1
                 clear hown8 hgrow hgat hglt kk hown o8)
    clear o81 o8z o1 oz e0 e1 e2 e3 e4 e5 e6 e7 q2 q3 q4
    obtain ⟨w9, hw9⟩ : ∃ x, x = w8.setCell ⟨w.heap.size + 1 + 1, 1, none⟩ (.slice (some ⟨gg, 0, none⟩) 1 cp) := ⟨_, rfl⟩
    rw [← hw9]
    obtain ⟨k35, hO, hA, hR, hd, k3, hz3, hdl, hszd, hsz5, hszc⟩ := HC.out
    have hbg := (ownsRow_cell (i := 0) HX8.out.1 rfl).2.2
    have k89 : Keep (· = w.heap.size + 1 + 1) w8 w9 := hw9 ▸ Keep.setCell _ _ _ (fun _ => rfl)
    have hO9 := setCell_lex (HX8.out.2.heap hO (fun h => h)) 1 (.slice (some ⟨gg, 0, none⟩) 1 cp)
    rw [← hw9] at hO9
    have hA9 := k89.heap (HX8.out.2.heap hA (fun h => h)) (show ¬ w.heap.size = w.heap.size + 1 + 1 by omega)
    have hR9 := k89.heap (HX8.out.2.heap hR (fun h => h)) (show ¬ w.heap.size + 1 = w.heap.size + 1 + 1 by omega)
    have hD9 : ∀ j v, (declCs true t)[j]? = some v → w9.cell? ⟨gg, j, none⟩ = some v := fun j v hj => k89.cell (ownsRow_cell (i := j) HX8.out.1 hj).1 (show ¬ gg = w.heap.size + 1 + 1 by omega)
    have kw9 : Keep NoB w w9 := ((k3.then k35).then HX8.out.2).trans k89 (fun _ _ h => h) (fun i hi h => by omega)
    have H9 := Lib.hid (And.intro hO9 (And.intro hA9 (And.intro hR9 (And.intro hD9 kw9))))
    have HAc := Lib.hid (show ∀ x, Keep NoB w9 x → x.cell? ⟨w.heap.size, 2, none⟩ = some (.map none) ∧ x.cell? ⟨w.heap.size, 3, none⟩ = some (.map none) ∧ x.cell? ⟨w.heap.size, 4, none⟩ = some (.map none) from fun x kx => by
      have h := kx.heap hA9 (fun h => h)
      exact ⟨by rw [cellIn h]; rfl, by rw [cellIn h]; rfl, by rw [cellIn h]; rfl⟩)
    obtain ⟨a2, a3, a4⟩ := HAc.out w9 (Keep.refl _ _)
    clear hw9 k35 hO hA hR hd k3 hz3 hdl hszd hsz5 hszc hbg k89 hO9 hA9 hR9 hD9 kw9
    rw [rounds_succ]
    go_wp2_with fail
    refine (callsIn_wide.1 (Tryz.maps_Keys_29 none w9)).mono ?_
    rintro e wt ⟨rfl, hwt⟩
    have HN1 := Lib.hid (hwt ▸ callsIn_wide.1 (Tryz.slices_Sorted_keys_nil_24_29 w9))
    have kt1 : Keep NoB w9 wt := hwt ▸ Keep.alloc _ _ _
    have HT1 := Lib.hid kt1
    clear hwt kt1
    go_wp2_with fail
    refine HN1.out.mono ?_
    rintro e w10 ⟨v, ss, hv0, hss, _, hv, hb⟩
    obtain rfl := hv0
    obtain rfl : v = .slice none 0 0 := hv.2 hss
    have HK1 := Lib.hid (HT1.out.then (Keep.ofBelow hb))
    obtain ⟨a2, a3, a4⟩ := HAc.out w10 HK1.out
    clear hb hss hv
    go_wp2_with fail
    refine wp_loop_once ?_
    go_wp2_with fail
    refine (callsIn_wide.1 (Tryz.maps_Keys_31 none w10)).mono ?_
    rintro e wt ⟨rfl, hwt⟩
    have HN2 := Lib.hid (hwt ▸ callsIn_wide.1 (Tryz.slices_Sorted_keys_nil_30_31 w10))
    have kt2 : Keep NoB w10 wt := hwt ▸ Keep.alloc _ _ _
    have HT2 := Lib.hid kt2
    clear hwt kt2
    go_wp2_with fail
    refine HN2.out.mono ?_
    rintro e w11 ⟨v, ss, hv0, hss, _, hv, hb⟩
    obtain rfl := hv0
    obtain rfl : v = .slice none 0 0 := hv.2 hss
    have HK2 := Lib.hid (HT2.out.then (Keep.ofBelow hb))
    obtain ⟨a2, a3, a4⟩ := HAc.out w11 (HK1.out.then HK2.out)
    clear hb hss hv
    go_wp2_with fail
    refine wp_loop_once ?_
    go_wp2_with fail
    refine (callsIn_wide.1 (Tryz.maps_Keys_32 none w11)).mono ?_
    rintro e wt ⟨rfl, hwt⟩
    have HN3 := Lib.hid (hwt ▸ callsIn_wide.1 (Tryz.slices_Sorted_keys_nil_24_32 w11))
    have kt3 : Keep NoB w11 wt := hwt ▸ Keep.alloc _ _ _
    have HT3 := Lib.hid kt3
    clear hwt kt3
    go_wp2_with fail
    refine HN3.out.mono ?_
    rintro e w12 ⟨v, ss, hv0, hss, _, hv, hb⟩
    obtain rfl := hv0
    obtain rfl : v = .slice none 0 0 := hv.2 hss
    have HK3 := Lib.hid (HT3.out.then (Keep.ofBelow hb))
    have kk := (HK1.out.then HK2.out).then HK3.out
    have hO12 := kk.heap H9.out.1 (fun h => h)
    have hR12 := kk.heap H9.out.2.2.1 (fun h => h)
    have o0 : w12.cell? ⟨w.heap.size + 1 + 1, 0, none⟩ = some (.string ⟨#[]⟩) := by rw [cellIn hO12]; rfl
    have o1 : w12.cell? ⟨w.heap.size + 1 + 1, 1, none⟩ = some (.slice (some ⟨gg, 0, none⟩) 1 cp) := by rw [cellIn hO12]; rfl
    have o2 : w12.cell? ⟨w.heap.size + 1 + 1, 2, none⟩ = some (.slice none 0 0) := by rw [cellIn hO12]; rfl
    have o3 : w12.cell? ⟨w.heap.size + 1 + 1, 3, none⟩ = some (.slice none 0 0) := by rw [cellIn hO12]; rfl
    have o4 : w12.cell? ⟨w.heap.size + 1 + 1, 4, none⟩ = some (.slice none 0 0) := by rw [cellIn hO12]; rfl
    have r0 : w12.cell? ⟨w.heap.size + 1, 0, none⟩ = some (.string ⟨#[]⟩) := by rw [cellIn hR12]; rfl
    have r1 : w12.cell? ⟨w.heap.size + 1, 1, none⟩ = some (.slice none 0 0) := by rw [cellIn hR12]; rfl
    have r2 : w12.cell? ⟨w.heap.size + 1, 2, none⟩ = some (.slice none 0 0) := by rw [cellIn hR12]; rfl
    have r3 : w12.cell? ⟨w.heap.size + 1, 3, none⟩ = some (.slice none 0 0) := by rw [cellIn hR12]; rfl
    have r4 : w12.cell? ⟨w.heap.size + 1, 4, none⟩ = some (.slice none 0 0) := by rw [cellIn hR12]; rfl
    have z0 := frozenIn hR12 0
    have z1 := frozenIn hR12 1
    have z2 := frozenIn hR12 2
    have z3 := frozenIn hR12 3
    have z4 := frozenIn hR12 4
    have H12 := Lib.hid (And.intro kk hR12)
    clear kk hO12 hR12 a2 a3
    clear hb hss hv
    go_wp2_with fail
    refine wp_loop_once ?_
    go_wp2_with fail
    clear o0 o1 o2 o3 o4 r0 r1 r2 r3 r4 z0 z1 z2 z3 z4 a4
    obtain ⟨wz, hwz⟩ : ∃ x, x = ((((w12.setCell ⟨w.heap.size + 1, 0, none⟩ (.string ⟨#[]⟩)).setCell ⟨w.heap.size + 1, 1, none⟩ (.slice (some ⟨gg, 0, none⟩) 1 cp)).setCell ⟨w.heap.size + 1, 2, none⟩ (.slice none 0 0)).setCell ⟨w.heap.size + 1, 3, none⟩ (.slice none 0 0)).setCell ⟨w.heap.size + 1, 4, none⟩ (.slice none 0 0) := ⟨_, rfl⟩
    obtain ⟨kk, hR12⟩ := H12.out
    obtain ⟨hO9, hA9, hR9, hD9, kw9⟩ := H9.out
    have hz := setCell_lex (setCell_lex (setCell_lex (setCell_lex (setCell_lex hR12 0 (.string ⟨#[]⟩)) 1 (.slice (some ⟨gg, 0, none⟩) 1 cp)) 2 (.slice none 0 0)) 3 (.slice none 0 0)) 4 (.slice none 0 0)
    have kst : ∀ (u : World) (i : Nat) (v : Value), Keep (· = w.heap.size + 1) w12 u → Keep (· = w.heap.size + 1) w12 (u.setCell ⟨w.heap.size + 1, i, none⟩ v) := fun u i v k => k.trans (Keep.setCell (M := (· = w.heap.size + 1)) _ _ _ (fun _ => rfl)) (fun _ _ h => h) (fun _ _ h => h)
    have kz : Keep (· = w.heap.size + 1) w12 wz := hwz ▸ kst _ _ _ (kst _ _ _ (kst _ _ _ (kst _ _ _ (kst _ _ _ (Keep.refl _ _)))))
    rw [← hwz] at hz ⊢
    have c0 : wz.cell? ⟨w.heap.size + 1, 0, none⟩ = some (.string ⟨#[]⟩) := by rw [cellIn hz]; rfl
    have c1 : wz.cell? ⟨w.heap.size + 1, 1, none⟩ = some (.slice (some ⟨gg, 0, none⟩) 1 cp) := by rw [cellIn hz]; rfl
    have c2 : wz.cell? ⟨w.heap.size + 1, 2, none⟩ = some (.slice none 0 0) := by rw [cellIn hz]; rfl
    have c3 : wz.cell? ⟨w.heap.size + 1, 3, none⟩ = some (.slice none 0 0) := by rw [cellIn hz]; rfl
    have c4 : wz.cell? ⟨w.heap.size + 1, 4, none⟩ = some (.slice none 0 0) := by rw [cellIn hz]; rfl
    refine bodyPost_ret (v := outNs true gg cp) ?_ rfl ⟨⟨gg, cp, rfl, fun j v hj => kz.cell (kk.cell (hD9 j v hj) (fun h => h)) ?_⟩, (kw9.then kk).trans kz (fun _ _ h => h) (fun i hi h => by omega)⟩
    · simp [results, Tryz.results14, go_sem, c0, c1, c2, c3, c4, Result.andThen, outNs, spCs]
    · have hbg := (ownsRow_cell (i := 0) HX8.out.1 rfl).2.2
      have hh := HC.out.2.2.2.2.2
      have h0 := HC.out.1.size
      intro e
      dsimp only at e
      omega
end Go.Proofs.YtjclpmgfcaadmaaGreatDoor
