/- The walk of meantType. -/
import Derived.Test.YthhjehajdcgkhaaGreatDoorMean
namespace Go.Proofs.YthhjehajdcgkhaaGreatDoor
open Go.RowKit

theorem set4 (w : World) (b : Nat) (T : TypeId) (v0 v1 v2 v3 : Value) {a0 a1 a2 a3 : Value} (h : w.heap[b]? = some (.cells #[a0, a1, a2, a3] T (0, 0))) :
    ∃ wz, wz = (((w.setCell ⟨b, 0, none⟩ v0).setCell ⟨b, 1, none⟩ v1).setCell ⟨b, 2, none⟩ v2).setCell ⟨b, 3, none⟩ v3 ∧ Keep (· = b) w wz ∧ wz.heap[b]? = some (.cells #[v0, v1, v2, v3] T (0, 0)) ∧
      wz.cell? ⟨b, 0, none⟩ = some v0 ∧ wz.cell? ⟨b, 1, none⟩ = some v1 ∧ wz.cell? ⟨b, 2, none⟩ = some v2 ∧ wz.cell? ⟨b, 3, none⟩ = some v3 := by
  have kst : ∀ (u : World) (i : Nat) (v : Value), Keep (· = b) u (u.setCell ⟨b, i, none⟩ v) := fun u i v => Keep.setCell _ _ _ (fun _ => rfl)
  have kj : ∀ {u v x : World}, Keep (· = b) u v → Keep (· = b) v x → Keep (· = b) u x := fun h1 h2 => h1.trans h2 (fun _ _ h => h) (fun _ _ h => h)
  have hz : ((((w.setCell ⟨b, 0, none⟩ v0).setCell ⟨b, 1, none⟩ v1).setCell ⟨b, 2, none⟩ v2).setCell ⟨b, 3, none⟩ v3).heap[b]? = some (.cells #[v0, v1, v2, v3] T (0, 0)) :=
    setCell_cells (setCell_cells (setCell_cells (setCell_cells h 0 v0) 1 v1) 2 v2) 3 v3
  exact ⟨_, rfl, kj (kj (kj (kst w 0 v0) (kst _ 1 v1)) (kst _ 2 v2)) (kst _ 3 v3), hz, by rw [cell_cells hz]; rfl, by rw [cell_cells hz]; rfl, by rw [cell_cells hz]; rfl, by rw [cell_cells hz]; rfl⟩

theorem set3 (w : World) (b : Nat) (T : TypeId) (v0 v1 v2 : Value) {a0 a1 a2 : Value} (h : w.heap[b]? = some (.cells #[a0, a1, a2] T (0, 0))) :
    ∃ wz, wz = ((w.setCell ⟨b, 0, none⟩ v0).setCell ⟨b, 1, none⟩ v1).setCell ⟨b, 2, none⟩ v2 ∧ Keep (· = b) w wz ∧ wz.heap[b]? = some (.cells #[v0, v1, v2] T (0, 0)) ∧
      wz.cell? ⟨b, 0, none⟩ = some v0 ∧ wz.cell? ⟨b, 1, none⟩ = some v1 ∧ wz.cell? ⟨b, 2, none⟩ = some v2 := by
  have kst : ∀ (u : World) (i : Nat) (v : Value), Keep (· = b) u (u.setCell ⟨b, i, none⟩ v) := fun u i v => Keep.setCell _ _ _ (fun _ => rfl)
  have kj : ∀ {u v x : World}, Keep (· = b) u v → Keep (· = b) v x → Keep (· = b) u x := fun h1 h2 => h1.trans h2 (fun _ _ h => h) (fun _ _ h => h)
  have hz : (((w.setCell ⟨b, 0, none⟩ v0).setCell ⟨b, 1, none⟩ v1).setCell ⟨b, 2, none⟩ v2).heap[b]? = some (.cells #[v0, v1, v2] T (0, 0)) :=
    setCell_cells (setCell_cells (setCell_cells h 0 v0) 1 v1) 2 v2
  exact ⟨_, rfl, kj (kj (kst w 0 v0) (kst _ 1 v1)) (kst _ 2 v2), hz, by rw [cell_cells hz]; rfl, by rw [cell_cells hz]; rfl, by rw [cell_cells hz]; rfl⟩

theorem set8 (w : World) (b : Nat) (T : TypeId) (v0 v1 v2 v3 v4 v5 v6 v7 : Value) {a0 a1 a2 a3 a4 a5 a6 a7 : Value} (h : w.heap[b]? = some (.cells #[a0, a1, a2, a3, a4, a5, a6, a7] T (0, 0))) :
    ∃ wz, wz = ((((((((w.setCell ⟨b, 0, none⟩ v0).setCell ⟨b, 1, none⟩ v1).setCell ⟨b, 2, none⟩ v2).setCell ⟨b, 3, none⟩ v3).setCell ⟨b, 4, none⟩ v4).setCell ⟨b, 5, none⟩ v5).setCell ⟨b, 6, none⟩ v6).setCell ⟨b, 7, none⟩ v7) ∧ Keep (· = b) w wz ∧ wz.heap[b]? = some (.cells #[v0, v1, v2, v3, v4, v5, v6, v7] T (0, 0)) := by
  have kst : ∀ (u : World) (i : Nat) (v : Value), Keep (· = b) u (u.setCell ⟨b, i, none⟩ v) := fun u i v => Keep.setCell _ _ _ (fun _ => rfl)
  have kj : ∀ {u v x : World}, Keep (· = b) u v → Keep (· = b) v x → Keep (· = b) u x := fun h1 h2 => h1.trans h2 (fun _ _ h => h) (fun _ _ h => h)
  have h0 : (w.setCell ⟨b, 0, none⟩ v0).heap[b]? = some (.cells #[v0, a1, a2, a3, a4, a5, a6, a7] T (0, 0)) := setCell_cells h 0 v0
  have h1 : ((w.setCell ⟨b, 0, none⟩ v0).setCell ⟨b, 1, none⟩ v1).heap[b]? = some (.cells #[v0, v1, a2, a3, a4, a5, a6, a7] T (0, 0)) := setCell_cells h0 1 v1
  have h2 : (((w.setCell ⟨b, 0, none⟩ v0).setCell ⟨b, 1, none⟩ v1).setCell ⟨b, 2, none⟩ v2).heap[b]? = some (.cells #[v0, v1, v2, a3, a4, a5, a6, a7] T (0, 0)) := setCell_cells h1 2 v2
  have h3 : ((((w.setCell ⟨b, 0, none⟩ v0).setCell ⟨b, 1, none⟩ v1).setCell ⟨b, 2, none⟩ v2).setCell ⟨b, 3, none⟩ v3).heap[b]? = some (.cells #[v0, v1, v2, v3, a4, a5, a6, a7] T (0, 0)) := setCell_cells h2 3 v3
  have h4 : (((((w.setCell ⟨b, 0, none⟩ v0).setCell ⟨b, 1, none⟩ v1).setCell ⟨b, 2, none⟩ v2).setCell ⟨b, 3, none⟩ v3).setCell ⟨b, 4, none⟩ v4).heap[b]? = some (.cells #[v0, v1, v2, v3, v4, a5, a6, a7] T (0, 0)) := setCell_cells h3 4 v4
  have h5 : ((((((w.setCell ⟨b, 0, none⟩ v0).setCell ⟨b, 1, none⟩ v1).setCell ⟨b, 2, none⟩ v2).setCell ⟨b, 3, none⟩ v3).setCell ⟨b, 4, none⟩ v4).setCell ⟨b, 5, none⟩ v5).heap[b]? = some (.cells #[v0, v1, v2, v3, v4, v5, a6, a7] T (0, 0)) := setCell_cells h4 5 v5
  have h6 : (((((((w.setCell ⟨b, 0, none⟩ v0).setCell ⟨b, 1, none⟩ v1).setCell ⟨b, 2, none⟩ v2).setCell ⟨b, 3, none⟩ v3).setCell ⟨b, 4, none⟩ v4).setCell ⟨b, 5, none⟩ v5).setCell ⟨b, 6, none⟩ v6).heap[b]? = some (.cells #[v0, v1, v2, v3, v4, v5, v6, a7] T (0, 0)) := setCell_cells h5 6 v6
  have h7 : ((((((((w.setCell ⟨b, 0, none⟩ v0).setCell ⟨b, 1, none⟩ v1).setCell ⟨b, 2, none⟩ v2).setCell ⟨b, 3, none⟩ v3).setCell ⟨b, 4, none⟩ v4).setCell ⟨b, 5, none⟩ v5).setCell ⟨b, 6, none⟩ v6).setCell ⟨b, 7, none⟩ v7).heap[b]? = some (.cells #[v0, v1, v2, v3, v4, v5, v6, v7] T (0, 0)) := setCell_cells h6 7 v7
  exact ⟨_, rfl, kj (kj (kj (kj (kj (kj (kj (kst w 0 v0) (kst _ 1 v1)) (kst _ 2 v2)) (kst _ 3 v3)) (kst _ 4 v4)) (kst _ 5 v5)) (kst _ 6 v6)) (kst _ 7 v7), h7⟩
theorem cells8 {w : World} {b : Nat} {T : TypeId} {a0 a1 a2 a3 a4 a5 a6 a7 : Value} (h : w.heap[b]? = some (.cells #[a0, a1, a2, a3, a4, a5, a6, a7] T (0, 0))) :
    w.cell? ⟨b, 0, none⟩ = some a0 ∧ w.cell? ⟨b, 1, none⟩ = some a1 ∧ w.cell? ⟨b, 2, none⟩ = some a2 ∧ w.cell? ⟨b, 3, none⟩ = some a3 ∧ w.cell? ⟨b, 4, none⟩ = some a4 ∧ w.cell? ⟨b, 5, none⟩ = some a5 ∧ w.cell? ⟨b, 6, none⟩ = some a6 ∧ w.cell? ⟨b, 7, none⟩ = some a7 ∧ w.frozen? ⟨b, 0, none⟩ = false ∧ w.frozen? ⟨b, 1, none⟩ = false ∧ w.frozen? ⟨b, 2, none⟩ = false ∧ w.frozen? ⟨b, 3, none⟩ = false ∧ w.frozen? ⟨b, 4, none⟩ = false ∧ w.frozen? ⟨b, 5, none⟩ = false ∧ w.frozen? ⟨b, 6, none⟩ = false ∧ w.frozen? ⟨b, 7, none⟩ = false :=
  ⟨by rw [cell_cells h]; rfl, by rw [cell_cells h]; rfl, by rw [cell_cells h]; rfl, by rw [cell_cells h]; rfl, by rw [cell_cells h]; rfl, by rw [cell_cells h]; rfl, by rw [cell_cells h]; rfl, by rw [cell_cells h]; rfl, frozen_cells h 0, frozen_cells h 1, frozen_cells h 2, frozen_cells h 3, frozen_cells h 4, frozen_cells h 5, frozen_cells h 6, frozen_cells h 7⟩

theorem heap_alloc1 {w w' : World} {O : Obj} (k : Keep NoB (w.alloc O) w') : w'.heap[w.heap.size]? = some O := k.heap (MapKept.heap_alloc _ _).1 (NoB.not _)
theorem heap_alloc2 {w w' : World} {O : Obj} (k : Keep NoB (w.alloc O).drew w') : w'.heap[w.heap.size]? = some O := k.heap (MapKept.heap_alloc w O).1 (NoB.not _)
theorem heap_again {w w' : World} {O : Obj} {d : Nat} (k : Keep NoB w w') (h : w.heap[d]? = some O) : w'.heap[d]? = some O := k.heap h (NoB.not _)

theorem keepLate {wA w : World} {d i : Nat} {v : Value} (h : Keep NoB wA w) (hd : wA.heap.size ≤ d) : Keep NoB wA (w.setCell ⟨d, i, none⟩ v) :=
  h.trans (Keep.setCell (M := (· = d)) _ _ _ (fun _ => rfl)) (fun _ _ h => h) (fun i hi h => by omega)

theorem mt_str (w : World) : Calls Tryz.prog 22 #[.iface 164 (.agg #[])] w (MeantTy w .str) := by
  have t0 := taY_rStr (.agg #[])
  go_enter Tryz.func22, Tryz.ntmps22
  go_wp2_with fail
  refine bodyPost_ret (v := tyV 1 ⟨#[]⟩ (none, 0, 0) (none, 0, 0)) ?_ rfl ⟨_, _, _, _, _, .str, rfl, .str _ _ _, (Keep.alloc _ _ NoB).then (Keep.alloc _ _ NoB)⟩
  simp [results, Tryz.results22, go_sem, Result.andThen]
theorem mt_long (w : World) : Calls Tryz.prog 22 #[.iface 165 (.agg #[])] w (MeantTy w .long) := by
  have t0 := taN_rStr 165 (by decide) (.agg #[])
  have t1 := taY_rLong (.agg #[])
  go_enter Tryz.func22, Tryz.ntmps22
  go_wp2_with fail
  refine bodyPost_ret (v := tyV 2 ⟨#[]⟩ (none, 0, 0) (none, 0, 0)) ?_ rfl ⟨_, _, _, _, _, .long, rfl, .long _ _ _, (Keep.alloc _ _ NoB).then (Keep.alloc _ _ NoB)⟩
  simp [results, Tryz.results22, go_sem, Result.andThen]
theorem mt_bool (w : World) : Calls Tryz.prog 22 #[.iface 166 (.agg #[])] w (MeantTy w .bool) := by
  have t0 := taN_rStr 166 (by decide) (.agg #[])
  have t1 := taN_rLong 166 (by decide) (.agg #[])
  have t2 := taY_rBool (.agg #[])
  go_enter Tryz.func22, Tryz.ntmps22
  go_wp2_with fail
  refine bodyPost_ret (v := tyV 3 ⟨#[]⟩ (none, 0, 0) (none, 0, 0)) ?_ rfl ⟨_, _, _, _, _, .bool, rfl, .bool _ _ _, (Keep.alloc _ _ NoB).then (Keep.alloc _ _ NoB)⟩
  simp [results, Tryz.results22, go_sem, Result.andThen]
theorem mt_ext (w : World) (s : Str) : Calls Tryz.prog 22 #[.iface 167 (.string s)] w (MeantTy w (.ext s)) := by
  have t0 := taN_rStr 167 (by decide) (.string s)
  have t1 := taN_rLong 167 (by decide) (.string s)
  have t2 := taN_rBool 167 (by decide) (.string s)
  have t3 := taY_rExt (.string s)
  go_enter Tryz.func22, Tryz.ntmps22
  go_wp2_with fail
  refine bodyPost_ret (v := tyV 4 s (none, 0, 0) (none, 0, 0)) ?_ rfl ⟨_, _, _, _, _, .ext s, rfl, .ext _ _ _, Keep.alloc _ _ NoB⟩
  simp [results, Tryz.results22, go_sem, Result.andThen]
theorem mt_ent (w : World) (s : Str) : Calls Tryz.prog 22 #[.iface 170 (.string s)] w (MeantTy w (.ent s)) :=
  (meantType_ent_c w s).mono fun _ _ ⟨el, al, he, hk⟩ => ⟨_, _, _, _, _, .ent s, he, .ent _ _ _, hk⟩
set_option maxRecDepth 100000 in
theorem mt_set (w : World) (t : RTy) (T : TypeId) (x : Value) (h : ∀ w1, Keep NoB w w1 → Calls Tryz.prog 22 #[.iface T x] w1 (MeantTy w1 t)) : Calls Tryz.prog 22 #[.iface 169 (.agg #[.iface T x])] w (MeantTy w (.set t)) := by
  have t0 := taN_rStr 169 (by decide) (.agg #[.iface T x])
  have t1 := taN_rLong 169 (by decide) (.agg #[.iface T x])
  have t2 := taN_rBool 169 (by decide) (.agg #[.iface T x])
  have t3 := taN_rExt 169 (by decide) (.agg #[.iface T x])
  have t4 := taY_rSet (.agg #[.iface T x])
  have hb0 := (Keep.alloc (w.alloc (.cells #[.int .i64 0, .string ⟨#[]⟩, .slice none 0 0, .slice none 0 0] 28)) (.cells #[.iface T x] 169) NoB).heap (MapKept.heap_alloc w (.cells #[.int .i64 0, .string ⟨#[]⟩, .slice none 0 0, .slice none 0 0] 28)).1 (NoB.not _)
  have HA := Lib.hid (And.intro h hb0)
  clear h hb0
  go_enter Tryz.func22, Tryz.ntmps22
  go_wp2_with fail
  refine (HA.out.1 _ ((Keep.alloc _ _ NoB).then (Keep.alloc _ _ NoB))).mono ?_
  rintro e w2 ⟨a, k, s, el, al, hmt, rfl, hty, k2⟩
  have hb2 := k2.heap HA.out.2 (NoB.not _)
  have hb3 := (Keep.alloc w2 (.cells #[.int .i64 k, .string s, .slice el.1 el.2.1 el.2.2, .slice al.1 al.2.1 al.2.2] 28) NoB).heap hb2 (NoB.not _)
  have hlt : w.heap.size < w2.heap.size := by have := k2.size; simp at this; omega
  have z0 := frozen_cells hb3 0
  have z1 := frozen_cells hb3 1
  have z2 := frozen_cells hb3 2
  have z3 := frozen_cells hb3 3
  have c0 : (w2.alloc (.cells #[.int .i64 k, .string s, .slice el.1 el.2.1 el.2.2, .slice al.1 al.2.1 al.2.2] 28)).cell? ⟨w.heap.size, 0, none⟩ = some (.int .i64 0) := by rw [cell_cells hb3]; rfl
  have c1 : (w2.alloc (.cells #[.int .i64 k, .string s, .slice el.1 el.2.1 el.2.2, .slice al.1 al.2.1 al.2.2] 28)).cell? ⟨w.heap.size, 1, none⟩ = some (.string ⟨#[]⟩) := by rw [cell_cells hb3]; rfl
  have c2 : (w2.alloc (.cells #[.int .i64 k, .string s, .slice el.1 el.2.1 el.2.2, .slice al.1 al.2.1 al.2.2] 28)).cell? ⟨w.heap.size, 2, none⟩ = some (.slice none 0 0) := by rw [cell_cells hb3]; rfl
  have c3 : (w2.alloc (.cells #[.int .i64 k, .string s, .slice el.1 el.2.1 el.2.2, .slice al.1 al.2.1 al.2.2] 28)).cell? ⟨w.heap.size, 3, none⟩ = some (.slice none 0 0) := by rw [cell_cells hb3]; rfl
  have HB := Lib.hid (And.intro hmt (And.intro hty (And.intro k2 (And.intro hb3 hlt))))
  clear hmt hty k2 hb2 hb3 hlt t0 t1 t2 t3 t4
  go_wp2_with fail
  obtain ⟨hmt, hty, k2, hb3, hlt⟩ := HB.out
  obtain ⟨wz, hwz, ks, hz, q0, q1, q2, q3⟩ := set4 _ _ _ (.int .i64 5) (.string ⟨#[]⟩) (.slice (some ⟨w2.heap.size, 0, none⟩) 1 1) (.slice none 0 0) hb3
  rw [← hwz]
  clear hwz z0 z1 z2 z3 c0 c1 c2 c3
  have k02 : Keep NoB w (w2.alloc (.cells #[.int .i64 k, .string s, .slice el.1 el.2.1 el.2.2, .slice al.1 al.2.1 al.2.2] 28)) := (((Keep.alloc _ _ NoB).then (Keep.alloc _ _ NoB)).then k2).then (Keep.alloc _ _ NoB)
  have hnew := (MapKept.heap_alloc w2 (.cells #[.int .i64 k, .string s, .slice el.1 el.2.1 el.2.2, .slice al.1 al.2.1 al.2.2] 28)).1
  have hnew' := ks.heap hnew (by omega)
  refine bodyPost_ret (v := tyV 5 ⟨#[]⟩ (some ⟨w2.heap.size, 0, none⟩, 1, 1) (none, 0, 0)) ?_ rfl ⟨_, _, _, _, _, .set hmt, rfl, .set _ w2.heap.size 0 1 _ k s el al (by omega) ?_ ?_, k02.trans ks (fun _ _ h => h) (fun i hi h => by omega)⟩
  · simp [results, Tryz.results22, go_sem, q0, q1, q2, q3, Result.andThen]
  · intro j v hj
    rw [Nat.zero_add, cell_cells hnew']
    simpa using hj
  · refine (hty.keep (M' := fun i => i < w.heap.size + 2) (Keep.alloc _ _ NoB) (fun _ _ h => h.elim) (fun i hi h => ?_)).keep ks (fun i hi h => by show i < _; omega) (fun i hi (h : i < _) => by show i < _; omega)
    show i < _
    simp; omega
set_option maxRecDepth 100000 in
theorem mt_rec (w : World) (l : List (Str × RTy × Bool)) (mb : Option Nat) (h : ∀ w1, Keep NoB w w1 → Calls Tryz.prog 21 #[.map mb] w1 (MeantRec w1 l)) : Calls Tryz.prog 22 #[.iface 86 (.map mb)] w (MeantTy w (.record l)) := by
  have t0 := taN_rStr 86 (by decide) (.map mb)
  have t1 := taN_rLong 86 (by decide) (.map mb)
  have t2 := taN_rBool 86 (by decide) (.map mb)
  have t3 := taN_rExt 86 (by decide) (.map mb)
  have t4 := taN_rSet 86 (by decide) (.map mb)
  have t5 := taY_rRec (.map mb)
  have hb0 := (MapKept.heap_alloc w (.cells #[.int .i64 0, .string ⟨#[]⟩, .slice none 0 0, .slice none 0 0] 28)).1
  have HA := Lib.hid (And.intro h hb0)
  clear h hb0
  go_enter Tryz.func22, Tryz.ntmps22
  go_wp2_with fail
  refine (HA.out.1 _ (Keep.alloc _ _ NoB)).mono ?_
  rintro e w2 ⟨l', o, c, hmt, rfl, hty, k2⟩
  have hb3 := k2.heap HA.out.2 (NoB.not _)
  have hlt : w.heap.size < w2.heap.size := by have := k2.size; simp at this; omega
  have z0 := frozen_cells hb3 0
  have z1 := frozen_cells hb3 1
  have z2 := frozen_cells hb3 2
  have z3 := frozen_cells hb3 3
  have c0 : w2.cell? ⟨w.heap.size, 0, none⟩ = some (.int .i64 0) := by rw [cell_cells hb3]; rfl
  have c1 : w2.cell? ⟨w.heap.size, 1, none⟩ = some (.string ⟨#[]⟩) := by rw [cell_cells hb3]; rfl
  have c2 : w2.cell? ⟨w.heap.size, 2, none⟩ = some (.slice none 0 0) := by rw [cell_cells hb3]; rfl
  have c3 : w2.cell? ⟨w.heap.size, 3, none⟩ = some (.slice none 0 0) := by rw [cell_cells hb3]; rfl
  have HB := Lib.hid (And.intro hmt (And.intro hty (And.intro k2 (And.intro hb3 hlt))))
  clear hmt hty k2 hb3 hlt t0 t1 t2 t3 t4 t5
  go_wp2_with fail
  obtain ⟨hmt, hty, k2, hb3, hlt⟩ := HB.out
  obtain ⟨wz, hwz, ks, hz, q0, q1, q2, q3⟩ := set4 _ _ _ (.int .i64 6) (.string ⟨#[]⟩) (.slice none 0 0) (.slice o l'.length c) hb3
  rw [← hwz]
  clear hwz z0 z1 z2 z3 c0 c1 c2 c3
  refine bodyPost_ret (v := tyV 6 ⟨#[]⟩ (none, 0, 0) (o, l'.length, c)) ?_ rfl ⟨_, _, _, _, _, hmt, rfl, (hty _ _).keep ks (fun i hi h => by show i < _; simp; omega) (fun i hi (h : i < _) => by show i < _; simp; omega), ((Keep.alloc _ _ NoB).then k2).trans ks (fun _ _ h => h) (fun i hi h => by omega)⟩
  simp [results, Tryz.results22, go_sem, q0, q1, q2, q3, Result.andThen]

theorem meantType_c {w0 : World} {M : Nat → Prop} {t : RTy} {v : Value} (h : RTyIs w0 M t v) : ROk t → ∀ w, Keep NoB w0 w → Calls Tryz.prog 22 #[v] w (MeantTy w t) := by
  induction h with
  | str => exact fun _ w _ => mt_str w
  | long => exact fun _ w _ => mt_long w
  | bool => exact fun _ w _ => mt_bool w
  | ext s _ => exact fun _ w _ => mt_ext w s
  | @set t v hv ih =>
    intro hok w k
    cases hok with
    | set hok =>
      obtain ⟨T, x, rfl⟩ := hv.iface
      exact mt_set w t T x fun w1 k1 => ih hok w1 (k.then k1)
  | record hm hM hn hl ha ht ih =>
    intro hok w k
    cases hok with
    | record hL hz hall => exact mt_rec w _ _ fun w1 k1 => meantAttrs_c _ _ (some _) _ _ _ hm hn hl ha hL hz (fun k t o hk => ih k t o hk (hall k t o hk)) w1 (k.then k1)
  | ent s _ => exact fun _ w _ => mt_ent w s
end Go.Proofs.YthhjehajdcgkhaaGreatDoor
