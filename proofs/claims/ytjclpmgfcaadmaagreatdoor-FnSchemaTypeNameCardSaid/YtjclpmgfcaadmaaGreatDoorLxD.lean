/- The schema's lexer: the end of the text, the signs. -/
import Derived.Test.YtjclpmgfcaadmaaGreatDoorLxC
namespace Go.Proofs.YtjclpmgfcaadmaaGreatDoor
open Go.RowKit Go.Shelf

set_option maxRecDepth 100000 in
set_option maxHeartbeats 8000000 in
theorem nextEof_c {w : World} {B : Nat} {o : Option Addr} {bb cap : Nat} {s : ByteArray} {p m : Nat} (hT : ∀ x, Keep (· = B) w x → Tabs x) (hB : B < w.heap.size) (h : LexIs w B o bb cap s p) (hsk : Sk s p m) (hm : s.size = m) (hs : s.size ≤ 3000) :
    Calls Tryz.prog 63 #[.pointer (some ⟨B, 0, none⟩)] w (TokOut B o bb cap s w 0 ⟨#[]⟩ m) := by
  have HT := Lib.hid hT
  have H0 := Lib.hid (And.intro h hsk)
  clear hT h hsk
  go_enter Tryz.func63, Tryz.ntmps63
  go_wp2_with fail
  obtain ⟨w1, hw1⟩ : ∃ w1, w1 = w.alloc (.cells #[.int .i64 0, .string ⟨#[]⟩, .int .i64 0, .int .i64 0, .int .i64 0, .string ⟨#[]⟩] 144) := ⟨_, rfl⟩
  have k1 : Keep NoB w w1 := hw1 ▸ Keep.alloc _ _ _
  have hb1 : w1.heap[w.heap.size]? = some (tokO 0 ⟨#[]⟩ 0 0 0 ⟨#[]⟩) := hw1 ▸ (MapKept.heap_alloc _ _).1
  rw [← hw1]
  clear hw1
  have kB1 : Keep (· = B) w w1 := k1.mono fun _ _ h => h.elim
  refine (skipTo_c (fun x kx => HT.out x (kB1.trans kx (fun _ _ h => h) (fun _ _ h => h))) (H0.out.1.keep k1) H0.out.2 hs).mono ?_
  rintro e w2 ⟨rfl, hl2, k2⟩
  have hb2 := k2.heap hb1 (show ¬ w.heap.size = B by omega)
  have H2 := Lib.hid (And.intro hl2 (And.intro (kB1.trans k2 (M'' := (· = B)) (fun _ _ h => h) (fun _ _ h => h)) hb2))
  clear hl2 k2 hb1 hb2 kB1 k1
  go_wp2_with fail
  refine (position_c H2.out.1).mono ?_
  rintro e w3 ⟨⟨l, c, f, rfl⟩, k3⟩
  have hl3 := H2.out.1.keep k3
  have hb3 := k3.heap H2.out.2.2 (fun h => h)
  have hs1 := (Array.getElem?_eq_some_iff.1 hb3).1
  obtain ⟨w4, hw4⟩ : ∃ x, x = w3.alloc (.cells #[.string f, .int .i64 l, .int .i64 c, .int .i64 m] 142) := ⟨_, rfl⟩
  have k4 : Keep NoB w3 w4 := hw4 ▸ Keep.alloc _ _ _
  have hbP : w4.heap[w3.heap.size]? = some (.cells #[.string f, .int .i64 l, .int .i64 c, .int .i64 m] 142 (0, 0)) := hw4 ▸ (MapKept.heap_alloc _ _).1
  have hbT := k4.heap hb3 (fun h => h)
  have hl4 := hl3.keep k4
  obtain ⟨lL, lc, lf, hbk⟩ := hl4.blk
  obtain ⟨e0, e1, _⟩ := lexCells hbk
  have H4 := Lib.hid (And.intro hl4 (And.intro hbP (And.intro hbT (And.intro (H2.out.2.1.trans (k3.then k4) (M'' := (· = B)) (fun _ _ h => h) (fun _ _ h => h.elim)) hs1))))
  have h1 : (s.size : Int) ≤ (m : Int) := by omega
  clear hl3 hb3 hbP hbT k3 k4 hbk hl4 hs1
  go_upto_region 5 with fail
  rw [← hw4]
  clear hw4
  go_quiet (fail)
  obtain ⟨w5, hw5⟩ : ∃ x, x = w4.drewN nq := ⟨_, rfl⟩
  have k5 : Keep NoB w4 w5 := hw5 ▸ Keep.drewN _ _ _
  rw [← hw5]
  have hbT := k5.heap H4.out.2.2.1 (fun h => h)
  have hbP := k5.heap H4.out.2.1 (fun h => h)
  have p0 : w5.cell? ⟨w3.heap.size, 0, none⟩ = some (.string f) ∧ w5.cell? ⟨w3.heap.size, 1, none⟩ = some (.int .i64 l) ∧ w5.cell? ⟨w3.heap.size, 2, none⟩ = some (.int .i64 c) ∧ w5.cell? ⟨w3.heap.size, 3, none⟩ = some (.int .i64 m) := by
    simp [World.cell?, hbP]
  obtain ⟨p0, p1, p2, p3⟩ := p0
  obtain ⟨g0, g1, g2, g3, g4, g5, z0, z1, z2, z3, z4, z5⟩ := tokCells hbT
  have H9 := Lib.hid (And.intro (H4.out.1.keep k5) (And.intro (H4.out.2.2.2.1.then k5) hbT))
  clear hbT hbP k5 hw5 e0 e1
  go_wp2_with fail
  obtain ⟨wz, hwz⟩ : ∃ wz, wz = (World.setCell (World.setCell (World.setCell (World.setCell (World.setCell (World.setCell w5 ⟨w.heap.size, 0, none⟩ (.int .i64 0)) ⟨w.heap.size, 1, none⟩ (.string f)) ⟨w.heap.size, 2, none⟩ (.int .i64 l)) ⟨w.heap.size, 3, none⟩ (.int .i64 c)) ⟨w.heap.size, 4, none⟩ (.int .i64 m)) ⟨w.heap.size, 5, none⟩ (.string ⟨#[]⟩)) := ⟨_, rfl⟩
  obtain ⟨hz, kz⟩ := tokStored (k := 0) (N := w.heap.size) H9.out.2.2 hwz
  rw [← hwz]
  clear hwz
  obtain ⟨q0, q1, q2, q3, q4, q5, _⟩ := tokCells hz
  refine bodyPost_ret (v := .tuple #[.agg #[.int .i64 0, .string f, .int .i64 l, .int .i64 c, .int .i64 m, .string ⟨#[]⟩], .nilIface]) ?_ rfl ?_
  · simp at q0
    simp [results, Tryz.results63, go_sem, q0, q1, q2, q3, q4, q5, Result.andThen]
  · exact ⟨⟨l, c, m, f, rfl⟩, H9.out.1.apart H9.out.2.2 kz (by omega), H9.out.2.1.trans kz (fun _ _ h => h) (fun i hi h => by omega)⟩
set_option maxRecDepth 100000 in
set_option maxHeartbeats 8000000 in
theorem nextSym64_c {w : World} {B : Nat} {o : Option Addr} {bb cap : Nat} {s : ByteArray} {p m : Nat} (hT : ∀ x, Keep (· = B) w x → Tabs x) (hB : B < w.heap.size) (h : LexIs w B o bb cap s p) (hsk : Sk s p m) (hms : m < s.size) (hc8 : at8 s m = 64) (hs : s.size ≤ 3000) :
    Calls Tryz.prog 63 #[.pointer (some ⟨B, 0, none⟩)] w (TokOut B o bb cap s w 3 ⟨#[64]⟩ (m + 1)) := by
  have HT := Lib.hid hT
  have H0 := Lib.hid (And.intro h hsk)
  clear hT h hsk
  go_enter Tryz.func63, Tryz.ntmps63
  go_wp2_with fail
  obtain ⟨w1, hw1⟩ : ∃ w1, w1 = w.alloc (.cells #[.int .i64 0, .string ⟨#[]⟩, .int .i64 0, .int .i64 0, .int .i64 0, .string ⟨#[]⟩] 144) := ⟨_, rfl⟩
  have k1 : Keep NoB w w1 := hw1 ▸ Keep.alloc _ _ _
  have hb1 : w1.heap[w.heap.size]? = some (tokO 0 ⟨#[]⟩ 0 0 0 ⟨#[]⟩) := hw1 ▸ (MapKept.heap_alloc _ _).1
  rw [← hw1]
  clear hw1
  have kB1 : Keep (· = B) w w1 := k1.mono fun _ _ h => h.elim
  refine (skipTo_c (fun x kx => HT.out x (kB1.trans kx (fun _ _ h => h) (fun _ _ h => h))) (H0.out.1.keep k1) H0.out.2 hs).mono ?_
  rintro e w2 ⟨rfl, hl2, k2⟩
  have hb2 := k2.heap hb1 (show ¬ w.heap.size = B by omega)
  have H2 := Lib.hid (And.intro hl2 (And.intro (kB1.trans k2 (M'' := (· = B)) (fun _ _ h => h) (fun _ _ h => h)) hb2))
  clear hl2 k2 hb1 hb2 kB1 k1
  go_wp2_with fail
  refine (position_c H2.out.1).mono ?_
  rintro e w3 ⟨⟨l, c, f, rfl⟩, k3⟩
  have hl3 := H2.out.1.keep k3
  have hb3 := k3.heap H2.out.2.2 (fun h => h)
  have hs1 := (Array.getElem?_eq_some_iff.1 hb3).1
  obtain ⟨w4, hw4⟩ : ∃ x, x = w3.alloc (.cells #[.string f, .int .i64 l, .int .i64 c, .int .i64 m] 142) := ⟨_, rfl⟩
  have k4 : Keep NoB w3 w4 := hw4 ▸ Keep.alloc _ _ _
  have hbP : w4.heap[w3.heap.size]? = some (.cells #[.string f, .int .i64 l, .int .i64 c, .int .i64 m] 142 (0, 0)) := hw4 ▸ (MapKept.heap_alloc _ _).1
  have hbT := k4.heap hb3 (fun h => h)
  have hl4 := hl3.keep k4
  obtain ⟨lL, lc, lf, hbk⟩ := hl4.blk
  obtain ⟨e0, e1, _⟩ := lexCells hbk
  have H4 := Lib.hid (And.intro hl4 (And.intro hbP (And.intro hbT (And.intro (H2.out.2.1.trans (k3.then k4) (M'' := (· = B)) (fun _ _ h => h) (fun _ _ h => h.elim)) hs1))))
  have h1 : ¬ (s.size : Int) ≤ (m : Int) := by omega
  clear hl3 hb3 hbP hbT k3 k4 hbk hl4 hs1
  go_upto_region 5 with fail
  rw [← hw4]
  clear hw4
  go_quiet (fail)
  obtain ⟨w5, hw5⟩ : ∃ x, x = w4.drewN nq := ⟨_, rfl⟩
  have k5 : Keep NoB w4 w5 := hw5 ▸ Keep.drewN _ _ _
  rw [← hw5]
  have H5 := Lib.hid (And.intro (H4.out.1.keep k5) (And.intro (k5.heap H4.out.2.1 (fun h => h)) (And.intro (k5.heap H4.out.2.2.1 (fun h => h)) (H4.out.2.2.2.1.then k5))))
  clear hw5 k5 e0 e1
  go_wp2_with fail
  have hP := peek_c (HT.out _ H5.out.2.2.2) H5.out.1 hms hs
  have hA8 := rune_ascii (s := s) (k := m) (by rw [hc8]; decide)
  rw [hA8.1, hc8] at hP
  have HP := Lib.hid hP
  have HA8 := Lib.hid hA8
  clear hP hA8
  refine HP.out.mono ?_
  rintro e w6 ⟨rfl, k6⟩
  have H6 := Lib.hid (And.intro (H5.out.1.keep k6) (And.intro (k6.heap H5.out.2.1 (fun h => h)) (And.intro (k6.heap H5.out.2.2.1 (fun h => h)) (H5.out.2.2.2.then k6))))
  clear k6
  go_wp2_with fail
  refine (isStart_c 64 _).mono ?_
  rintro e w7 ⟨rfl, hw7⟩
  obtain rfl : w6 = w7 := hw7.symm
  clear hw7
  rw [show isStart 64 = false from rfl]
  go_wp2_with fail
  have hA := advance_c (HT.out _ H6.out.2.2.2) H6.out.1 hms hs
  rw [HA8.out.1, HA8.out.2, hc8] at hA
  have HA := Lib.hid hA
  clear hA
  refine HA.out.mono ?_
  rintro e w8 ⟨rfl, hl8, k8⟩
  have hs1 := H4.out.2.2.2.2
  have hbT := k8.heap H6.out.2.2.1 (show ¬ w.heap.size = B by omega)
  have hbP := k8.heap H6.out.2.1 (show ¬ w3.heap.size = B by omega)
  have p0 : w8.cell? ⟨w3.heap.size, 0, none⟩ = some (.string f) ∧ w8.cell? ⟨w3.heap.size, 1, none⟩ = some (.int .i64 l) ∧ w8.cell? ⟨w3.heap.size, 2, none⟩ = some (.int .i64 c) ∧ w8.cell? ⟨w3.heap.size, 3, none⟩ = some (.int .i64 m) := by
    simp [World.cell?, hbP]
  obtain ⟨p0, p1, p2, p3⟩ := p0
  obtain ⟨g0, g1, g2, g3, g4, g5, z0, z1, z2, z3, z4, z5⟩ := tokCells hbT
  have H9 := Lib.hid (And.intro hl8 (And.intro (H6.out.2.2.2.trans k8 (M'' := (· = B)) (fun _ _ h => h) (fun _ _ h => h)) hbT))
  clear hbT hbP k8 hl8 hs1
  go_wp2_with fail
  obtain ⟨wz, hwz⟩ : ∃ wz, wz = (World.setCell (World.setCell (World.setCell (World.setCell (World.setCell (World.setCell w8 ⟨w.heap.size, 0, none⟩ (.int .i64 3)) ⟨w.heap.size, 1, none⟩ (.string f)) ⟨w.heap.size, 2, none⟩ (.int .i64 l)) ⟨w.heap.size, 3, none⟩ (.int .i64 c)) ⟨w.heap.size, 4, none⟩ (.int .i64 m)) ⟨w.heap.size, 5, none⟩ (.string ⟨#[64]⟩)) := ⟨_, rfl⟩
  obtain ⟨hz, kz⟩ := tokStored (k := 3) (N := w.heap.size) H9.out.2.2 hwz
  rw [← hwz]
  clear hwz
  obtain ⟨q0, q1, q2, q3, q4, q5, _⟩ := tokCells hz
  refine bodyPost_ret (v := .tuple #[.agg #[.int .i64 3, .string f, .int .i64 l, .int .i64 c, .int .i64 m, .string ⟨#[64]⟩], .nilIface]) ?_ rfl ?_
  · simp at q0
    simp [results, Tryz.results63, go_sem, q0, q1, q2, q3, q4, q5, Result.andThen]
  · exact ⟨⟨l, c, m, f, rfl⟩, H9.out.1.apart H9.out.2.2 kz (by omega), H9.out.2.1.trans kz (fun _ _ h => h) (fun i hi h => by omega)⟩
set_option maxRecDepth 100000 in
set_option maxHeartbeats 8000000 in
theorem nextSym123_c {w : World} {B : Nat} {o : Option Addr} {bb cap : Nat} {s : ByteArray} {p m : Nat} (hT : ∀ x, Keep (· = B) w x → Tabs x) (hB : B < w.heap.size) (h : LexIs w B o bb cap s p) (hsk : Sk s p m) (hms : m < s.size) (hc8 : at8 s m = 123) (hs : s.size ≤ 3000) :
    Calls Tryz.prog 63 #[.pointer (some ⟨B, 0, none⟩)] w (TokOut B o bb cap s w 4 ⟨#[123]⟩ (m + 1)) := by
  have HT := Lib.hid hT
  have H0 := Lib.hid (And.intro h hsk)
  clear hT h hsk
  go_enter Tryz.func63, Tryz.ntmps63
  go_wp2_with fail
  obtain ⟨w1, hw1⟩ : ∃ w1, w1 = w.alloc (.cells #[.int .i64 0, .string ⟨#[]⟩, .int .i64 0, .int .i64 0, .int .i64 0, .string ⟨#[]⟩] 144) := ⟨_, rfl⟩
  have k1 : Keep NoB w w1 := hw1 ▸ Keep.alloc _ _ _
  have hb1 : w1.heap[w.heap.size]? = some (tokO 0 ⟨#[]⟩ 0 0 0 ⟨#[]⟩) := hw1 ▸ (MapKept.heap_alloc _ _).1
  rw [← hw1]
  clear hw1
  have kB1 : Keep (· = B) w w1 := k1.mono fun _ _ h => h.elim
  refine (skipTo_c (fun x kx => HT.out x (kB1.trans kx (fun _ _ h => h) (fun _ _ h => h))) (H0.out.1.keep k1) H0.out.2 hs).mono ?_
  rintro e w2 ⟨rfl, hl2, k2⟩
  have hb2 := k2.heap hb1 (show ¬ w.heap.size = B by omega)
  have H2 := Lib.hid (And.intro hl2 (And.intro (kB1.trans k2 (M'' := (· = B)) (fun _ _ h => h) (fun _ _ h => h)) hb2))
  clear hl2 k2 hb1 hb2 kB1 k1
  go_wp2_with fail
  refine (position_c H2.out.1).mono ?_
  rintro e w3 ⟨⟨l, c, f, rfl⟩, k3⟩
  have hl3 := H2.out.1.keep k3
  have hb3 := k3.heap H2.out.2.2 (fun h => h)
  have hs1 := (Array.getElem?_eq_some_iff.1 hb3).1
  obtain ⟨w4, hw4⟩ : ∃ x, x = w3.alloc (.cells #[.string f, .int .i64 l, .int .i64 c, .int .i64 m] 142) := ⟨_, rfl⟩
  have k4 : Keep NoB w3 w4 := hw4 ▸ Keep.alloc _ _ _
  have hbP : w4.heap[w3.heap.size]? = some (.cells #[.string f, .int .i64 l, .int .i64 c, .int .i64 m] 142 (0, 0)) := hw4 ▸ (MapKept.heap_alloc _ _).1
  have hbT := k4.heap hb3 (fun h => h)
  have hl4 := hl3.keep k4
  obtain ⟨lL, lc, lf, hbk⟩ := hl4.blk
  obtain ⟨e0, e1, _⟩ := lexCells hbk
  have H4 := Lib.hid (And.intro hl4 (And.intro hbP (And.intro hbT (And.intro (H2.out.2.1.trans (k3.then k4) (M'' := (· = B)) (fun _ _ h => h) (fun _ _ h => h.elim)) hs1))))
  have h1 : ¬ (s.size : Int) ≤ (m : Int) := by omega
  clear hl3 hb3 hbP hbT k3 k4 hbk hl4 hs1
  go_upto_region 5 with fail
  rw [← hw4]
  clear hw4
  go_quiet (fail)
  obtain ⟨w5, hw5⟩ : ∃ x, x = w4.drewN nq := ⟨_, rfl⟩
  have k5 : Keep NoB w4 w5 := hw5 ▸ Keep.drewN _ _ _
  rw [← hw5]
  have H5 := Lib.hid (And.intro (H4.out.1.keep k5) (And.intro (k5.heap H4.out.2.1 (fun h => h)) (And.intro (k5.heap H4.out.2.2.1 (fun h => h)) (H4.out.2.2.2.1.then k5))))
  clear hw5 k5 e0 e1
  go_wp2_with fail
  have hP := peek_c (HT.out _ H5.out.2.2.2) H5.out.1 hms hs
  have hA8 := rune_ascii (s := s) (k := m) (by rw [hc8]; decide)
  rw [hA8.1, hc8] at hP
  have HP := Lib.hid hP
  have HA8 := Lib.hid hA8
  clear hP hA8
  refine HP.out.mono ?_
  rintro e w6 ⟨rfl, k6⟩
  have H6 := Lib.hid (And.intro (H5.out.1.keep k6) (And.intro (k6.heap H5.out.2.1 (fun h => h)) (And.intro (k6.heap H5.out.2.2.1 (fun h => h)) (H5.out.2.2.2.then k6))))
  clear k6
  go_wp2_with fail
  refine (isStart_c 123 _).mono ?_
  rintro e w7 ⟨rfl, hw7⟩
  obtain rfl : w6 = w7 := hw7.symm
  clear hw7
  rw [show isStart 123 = false from rfl]
  go_wp2_with fail
  have hA := advance_c (HT.out _ H6.out.2.2.2) H6.out.1 hms hs
  rw [HA8.out.1, HA8.out.2, hc8] at hA
  have HA := Lib.hid hA
  clear hA
  refine HA.out.mono ?_
  rintro e w8 ⟨rfl, hl8, k8⟩
  have hs1 := H4.out.2.2.2.2
  have hbT := k8.heap H6.out.2.2.1 (show ¬ w.heap.size = B by omega)
  have hbP := k8.heap H6.out.2.1 (show ¬ w3.heap.size = B by omega)
  have p0 : w8.cell? ⟨w3.heap.size, 0, none⟩ = some (.string f) ∧ w8.cell? ⟨w3.heap.size, 1, none⟩ = some (.int .i64 l) ∧ w8.cell? ⟨w3.heap.size, 2, none⟩ = some (.int .i64 c) ∧ w8.cell? ⟨w3.heap.size, 3, none⟩ = some (.int .i64 m) := by
    simp [World.cell?, hbP]
  obtain ⟨p0, p1, p2, p3⟩ := p0
  obtain ⟨g0, g1, g2, g3, g4, g5, z0, z1, z2, z3, z4, z5⟩ := tokCells hbT
  have H9 := Lib.hid (And.intro hl8 (And.intro (H6.out.2.2.2.trans k8 (M'' := (· = B)) (fun _ _ h => h) (fun _ _ h => h)) hbT))
  clear hbT hbP k8 hl8 hs1
  go_wp2_with fail
  obtain ⟨wz, hwz⟩ : ∃ wz, wz = (World.setCell (World.setCell (World.setCell (World.setCell (World.setCell (World.setCell w8 ⟨w.heap.size, 0, none⟩ (.int .i64 4)) ⟨w.heap.size, 1, none⟩ (.string f)) ⟨w.heap.size, 2, none⟩ (.int .i64 l)) ⟨w.heap.size, 3, none⟩ (.int .i64 c)) ⟨w.heap.size, 4, none⟩ (.int .i64 m)) ⟨w.heap.size, 5, none⟩ (.string ⟨#[123]⟩)) := ⟨_, rfl⟩
  obtain ⟨hz, kz⟩ := tokStored (k := 4) (N := w.heap.size) H9.out.2.2 hwz
  rw [← hwz]
  clear hwz
  obtain ⟨q0, q1, q2, q3, q4, q5, _⟩ := tokCells hz
  refine bodyPost_ret (v := .tuple #[.agg #[.int .i64 4, .string f, .int .i64 l, .int .i64 c, .int .i64 m, .string ⟨#[123]⟩], .nilIface]) ?_ rfl ?_
  · simp at q0
    simp [results, Tryz.results63, go_sem, q0, q1, q2, q3, q4, q5, Result.andThen]
  · exact ⟨⟨l, c, m, f, rfl⟩, H9.out.1.apart H9.out.2.2 kz (by omega), H9.out.2.1.trans kz (fun _ _ h => h) (fun i hi h => by omega)⟩
set_option maxRecDepth 100000 in
set_option maxHeartbeats 8000000 in
theorem nextSym125_c {w : World} {B : Nat} {o : Option Addr} {bb cap : Nat} {s : ByteArray} {p m : Nat} (hT : ∀ x, Keep (· = B) w x → Tabs x) (hB : B < w.heap.size) (h : LexIs w B o bb cap s p) (hsk : Sk s p m) (hms : m < s.size) (hc8 : at8 s m = 125) (hs : s.size ≤ 3000) :
    Calls Tryz.prog 63 #[.pointer (some ⟨B, 0, none⟩)] w (TokOut B o bb cap s w 5 ⟨#[125]⟩ (m + 1)) := by
  have HT := Lib.hid hT
  have H0 := Lib.hid (And.intro h hsk)
  clear hT h hsk
  go_enter Tryz.func63, Tryz.ntmps63
  go_wp2_with fail
  obtain ⟨w1, hw1⟩ : ∃ w1, w1 = w.alloc (.cells #[.int .i64 0, .string ⟨#[]⟩, .int .i64 0, .int .i64 0, .int .i64 0, .string ⟨#[]⟩] 144) := ⟨_, rfl⟩
  have k1 : Keep NoB w w1 := hw1 ▸ Keep.alloc _ _ _
  have hb1 : w1.heap[w.heap.size]? = some (tokO 0 ⟨#[]⟩ 0 0 0 ⟨#[]⟩) := hw1 ▸ (MapKept.heap_alloc _ _).1
  rw [← hw1]
  clear hw1
  have kB1 : Keep (· = B) w w1 := k1.mono fun _ _ h => h.elim
  refine (skipTo_c (fun x kx => HT.out x (kB1.trans kx (fun _ _ h => h) (fun _ _ h => h))) (H0.out.1.keep k1) H0.out.2 hs).mono ?_
  rintro e w2 ⟨rfl, hl2, k2⟩
  have hb2 := k2.heap hb1 (show ¬ w.heap.size = B by omega)
  have H2 := Lib.hid (And.intro hl2 (And.intro (kB1.trans k2 (M'' := (· = B)) (fun _ _ h => h) (fun _ _ h => h)) hb2))
  clear hl2 k2 hb1 hb2 kB1 k1
  go_wp2_with fail
  refine (position_c H2.out.1).mono ?_
  rintro e w3 ⟨⟨l, c, f, rfl⟩, k3⟩
  have hl3 := H2.out.1.keep k3
  have hb3 := k3.heap H2.out.2.2 (fun h => h)
  have hs1 := (Array.getElem?_eq_some_iff.1 hb3).1
  obtain ⟨w4, hw4⟩ : ∃ x, x = w3.alloc (.cells #[.string f, .int .i64 l, .int .i64 c, .int .i64 m] 142) := ⟨_, rfl⟩
  have k4 : Keep NoB w3 w4 := hw4 ▸ Keep.alloc _ _ _
  have hbP : w4.heap[w3.heap.size]? = some (.cells #[.string f, .int .i64 l, .int .i64 c, .int .i64 m] 142 (0, 0)) := hw4 ▸ (MapKept.heap_alloc _ _).1
  have hbT := k4.heap hb3 (fun h => h)
  have hl4 := hl3.keep k4
  obtain ⟨lL, lc, lf, hbk⟩ := hl4.blk
  obtain ⟨e0, e1, _⟩ := lexCells hbk
  have H4 := Lib.hid (And.intro hl4 (And.intro hbP (And.intro hbT (And.intro (H2.out.2.1.trans (k3.then k4) (M'' := (· = B)) (fun _ _ h => h) (fun _ _ h => h.elim)) hs1))))
  have h1 : ¬ (s.size : Int) ≤ (m : Int) := by omega
  clear hl3 hb3 hbP hbT k3 k4 hbk hl4 hs1
  go_upto_region 5 with fail
  rw [← hw4]
  clear hw4
  go_quiet (fail)
  obtain ⟨w5, hw5⟩ : ∃ x, x = w4.drewN nq := ⟨_, rfl⟩
  have k5 : Keep NoB w4 w5 := hw5 ▸ Keep.drewN _ _ _
  rw [← hw5]
  have H5 := Lib.hid (And.intro (H4.out.1.keep k5) (And.intro (k5.heap H4.out.2.1 (fun h => h)) (And.intro (k5.heap H4.out.2.2.1 (fun h => h)) (H4.out.2.2.2.1.then k5))))
  clear hw5 k5 e0 e1
  go_wp2_with fail
  have hP := peek_c (HT.out _ H5.out.2.2.2) H5.out.1 hms hs
  have hA8 := rune_ascii (s := s) (k := m) (by rw [hc8]; decide)
  rw [hA8.1, hc8] at hP
  have HP := Lib.hid hP
  have HA8 := Lib.hid hA8
  clear hP hA8
  refine HP.out.mono ?_
  rintro e w6 ⟨rfl, k6⟩
  have H6 := Lib.hid (And.intro (H5.out.1.keep k6) (And.intro (k6.heap H5.out.2.1 (fun h => h)) (And.intro (k6.heap H5.out.2.2.1 (fun h => h)) (H5.out.2.2.2.then k6))))
  clear k6
  go_wp2_with fail
  refine (isStart_c 125 _).mono ?_
  rintro e w7 ⟨rfl, hw7⟩
  obtain rfl : w6 = w7 := hw7.symm
  clear hw7
  rw [show isStart 125 = false from rfl]
  go_wp2_with fail
  have hA := advance_c (HT.out _ H6.out.2.2.2) H6.out.1 hms hs
  rw [HA8.out.1, HA8.out.2, hc8] at hA
  have HA := Lib.hid hA
  clear hA
  refine HA.out.mono ?_
  rintro e w8 ⟨rfl, hl8, k8⟩
  have hs1 := H4.out.2.2.2.2
  have hbT := k8.heap H6.out.2.2.1 (show ¬ w.heap.size = B by omega)
  have hbP := k8.heap H6.out.2.1 (show ¬ w3.heap.size = B by omega)
  have p0 : w8.cell? ⟨w3.heap.size, 0, none⟩ = some (.string f) ∧ w8.cell? ⟨w3.heap.size, 1, none⟩ = some (.int .i64 l) ∧ w8.cell? ⟨w3.heap.size, 2, none⟩ = some (.int .i64 c) ∧ w8.cell? ⟨w3.heap.size, 3, none⟩ = some (.int .i64 m) := by
    simp [World.cell?, hbP]
  obtain ⟨p0, p1, p2, p3⟩ := p0
  obtain ⟨g0, g1, g2, g3, g4, g5, z0, z1, z2, z3, z4, z5⟩ := tokCells hbT
  have H9 := Lib.hid (And.intro hl8 (And.intro (H6.out.2.2.2.trans k8 (M'' := (· = B)) (fun _ _ h => h) (fun _ _ h => h)) hbT))
  clear hbT hbP k8 hl8 hs1
  go_wp2_with fail
  obtain ⟨wz, hwz⟩ : ∃ wz, wz = (World.setCell (World.setCell (World.setCell (World.setCell (World.setCell (World.setCell w8 ⟨w.heap.size, 0, none⟩ (.int .i64 5)) ⟨w.heap.size, 1, none⟩ (.string f)) ⟨w.heap.size, 2, none⟩ (.int .i64 l)) ⟨w.heap.size, 3, none⟩ (.int .i64 c)) ⟨w.heap.size, 4, none⟩ (.int .i64 m)) ⟨w.heap.size, 5, none⟩ (.string ⟨#[125]⟩)) := ⟨_, rfl⟩
  obtain ⟨hz, kz⟩ := tokStored (k := 5) (N := w.heap.size) H9.out.2.2 hwz
  rw [← hwz]
  clear hwz
  obtain ⟨q0, q1, q2, q3, q4, q5, _⟩ := tokCells hz
  refine bodyPost_ret (v := .tuple #[.agg #[.int .i64 5, .string f, .int .i64 l, .int .i64 c, .int .i64 m, .string ⟨#[125]⟩], .nilIface]) ?_ rfl ?_
  · simp at q0
    simp [results, Tryz.results63, go_sem, q0, q1, q2, q3, q4, q5, Result.andThen]
  · exact ⟨⟨l, c, m, f, rfl⟩, H9.out.1.apart H9.out.2.2 kz (by omega), H9.out.2.1.trans kz (fun _ _ h => h) (fun i hi h => by omega)⟩
set_option maxRecDepth 100000 in
set_option maxHeartbeats 8000000 in
theorem nextSym91_c {w : World} {B : Nat} {o : Option Addr} {bb cap : Nat} {s : ByteArray} {p m : Nat} (hT : ∀ x, Keep (· = B) w x → Tabs x) (hB : B < w.heap.size) (h : LexIs w B o bb cap s p) (hsk : Sk s p m) (hms : m < s.size) (hc8 : at8 s m = 91) (hs : s.size ≤ 3000) :
    Calls Tryz.prog 63 #[.pointer (some ⟨B, 0, none⟩)] w (TokOut B o bb cap s w 6 ⟨#[91]⟩ (m + 1)) := by
  have HT := Lib.hid hT
  have H0 := Lib.hid (And.intro h hsk)
  clear hT h hsk
  go_enter Tryz.func63, Tryz.ntmps63
  go_wp2_with fail
  obtain ⟨w1, hw1⟩ : ∃ w1, w1 = w.alloc (.cells #[.int .i64 0, .string ⟨#[]⟩, .int .i64 0, .int .i64 0, .int .i64 0, .string ⟨#[]⟩] 144) := ⟨_, rfl⟩
  have k1 : Keep NoB w w1 := hw1 ▸ Keep.alloc _ _ _
  have hb1 : w1.heap[w.heap.size]? = some (tokO 0 ⟨#[]⟩ 0 0 0 ⟨#[]⟩) := hw1 ▸ (MapKept.heap_alloc _ _).1
  rw [← hw1]
  clear hw1
  have kB1 : Keep (· = B) w w1 := k1.mono fun _ _ h => h.elim
  refine (skipTo_c (fun x kx => HT.out x (kB1.trans kx (fun _ _ h => h) (fun _ _ h => h))) (H0.out.1.keep k1) H0.out.2 hs).mono ?_
  rintro e w2 ⟨rfl, hl2, k2⟩
  have hb2 := k2.heap hb1 (show ¬ w.heap.size = B by omega)
  have H2 := Lib.hid (And.intro hl2 (And.intro (kB1.trans k2 (M'' := (· = B)) (fun _ _ h => h) (fun _ _ h => h)) hb2))
  clear hl2 k2 hb1 hb2 kB1 k1
  go_wp2_with fail
  refine (position_c H2.out.1).mono ?_
  rintro e w3 ⟨⟨l, c, f, rfl⟩, k3⟩
  have hl3 := H2.out.1.keep k3
  have hb3 := k3.heap H2.out.2.2 (fun h => h)
  have hs1 := (Array.getElem?_eq_some_iff.1 hb3).1
  obtain ⟨w4, hw4⟩ : ∃ x, x = w3.alloc (.cells #[.string f, .int .i64 l, .int .i64 c, .int .i64 m] 142) := ⟨_, rfl⟩
  have k4 : Keep NoB w3 w4 := hw4 ▸ Keep.alloc _ _ _
  have hbP : w4.heap[w3.heap.size]? = some (.cells #[.string f, .int .i64 l, .int .i64 c, .int .i64 m] 142 (0, 0)) := hw4 ▸ (MapKept.heap_alloc _ _).1
  have hbT := k4.heap hb3 (fun h => h)
  have hl4 := hl3.keep k4
  obtain ⟨lL, lc, lf, hbk⟩ := hl4.blk
  obtain ⟨e0, e1, _⟩ := lexCells hbk
  have H4 := Lib.hid (And.intro hl4 (And.intro hbP (And.intro hbT (And.intro (H2.out.2.1.trans (k3.then k4) (M'' := (· = B)) (fun _ _ h => h) (fun _ _ h => h.elim)) hs1))))
  have h1 : ¬ (s.size : Int) ≤ (m : Int) := by omega
  clear hl3 hb3 hbP hbT k3 k4 hbk hl4 hs1
  go_upto_region 5 with fail
  rw [← hw4]
  clear hw4
  go_quiet (fail)
  obtain ⟨w5, hw5⟩ : ∃ x, x = w4.drewN nq := ⟨_, rfl⟩
  have k5 : Keep NoB w4 w5 := hw5 ▸ Keep.drewN _ _ _
  rw [← hw5]
  have H5 := Lib.hid (And.intro (H4.out.1.keep k5) (And.intro (k5.heap H4.out.2.1 (fun h => h)) (And.intro (k5.heap H4.out.2.2.1 (fun h => h)) (H4.out.2.2.2.1.then k5))))
  clear hw5 k5 e0 e1
  go_wp2_with fail
  have hP := peek_c (HT.out _ H5.out.2.2.2) H5.out.1 hms hs
  have hA8 := rune_ascii (s := s) (k := m) (by rw [hc8]; decide)
  rw [hA8.1, hc8] at hP
  have HP := Lib.hid hP
  have HA8 := Lib.hid hA8
  clear hP hA8
  refine HP.out.mono ?_
  rintro e w6 ⟨rfl, k6⟩
  have H6 := Lib.hid (And.intro (H5.out.1.keep k6) (And.intro (k6.heap H5.out.2.1 (fun h => h)) (And.intro (k6.heap H5.out.2.2.1 (fun h => h)) (H5.out.2.2.2.then k6))))
  clear k6
  go_wp2_with fail
  refine (isStart_c 91 _).mono ?_
  rintro e w7 ⟨rfl, hw7⟩
  obtain rfl : w6 = w7 := hw7.symm
  clear hw7
  rw [show isStart 91 = false from rfl]
  go_wp2_with fail
  have hA := advance_c (HT.out _ H6.out.2.2.2) H6.out.1 hms hs
  rw [HA8.out.1, HA8.out.2, hc8] at hA
  have HA := Lib.hid hA
  clear hA
  refine HA.out.mono ?_
  rintro e w8 ⟨rfl, hl8, k8⟩
  have hs1 := H4.out.2.2.2.2
  have hbT := k8.heap H6.out.2.2.1 (show ¬ w.heap.size = B by omega)
  have hbP := k8.heap H6.out.2.1 (show ¬ w3.heap.size = B by omega)
  have p0 : w8.cell? ⟨w3.heap.size, 0, none⟩ = some (.string f) ∧ w8.cell? ⟨w3.heap.size, 1, none⟩ = some (.int .i64 l) ∧ w8.cell? ⟨w3.heap.size, 2, none⟩ = some (.int .i64 c) ∧ w8.cell? ⟨w3.heap.size, 3, none⟩ = some (.int .i64 m) := by
    simp [World.cell?, hbP]
  obtain ⟨p0, p1, p2, p3⟩ := p0
  obtain ⟨g0, g1, g2, g3, g4, g5, z0, z1, z2, z3, z4, z5⟩ := tokCells hbT
  have H9 := Lib.hid (And.intro hl8 (And.intro (H6.out.2.2.2.trans k8 (M'' := (· = B)) (fun _ _ h => h) (fun _ _ h => h)) hbT))
  clear hbT hbP k8 hl8 hs1
  go_wp2_with fail
  obtain ⟨wz, hwz⟩ : ∃ wz, wz = (World.setCell (World.setCell (World.setCell (World.setCell (World.setCell (World.setCell w8 ⟨w.heap.size, 0, none⟩ (.int .i64 6)) ⟨w.heap.size, 1, none⟩ (.string f)) ⟨w.heap.size, 2, none⟩ (.int .i64 l)) ⟨w.heap.size, 3, none⟩ (.int .i64 c)) ⟨w.heap.size, 4, none⟩ (.int .i64 m)) ⟨w.heap.size, 5, none⟩ (.string ⟨#[91]⟩)) := ⟨_, rfl⟩
  obtain ⟨hz, kz⟩ := tokStored (k := 6) (N := w.heap.size) H9.out.2.2 hwz
  rw [← hwz]
  clear hwz
  obtain ⟨q0, q1, q2, q3, q4, q5, _⟩ := tokCells hz
  refine bodyPost_ret (v := .tuple #[.agg #[.int .i64 6, .string f, .int .i64 l, .int .i64 c, .int .i64 m, .string ⟨#[91]⟩], .nilIface]) ?_ rfl ?_
  · simp at q0
    simp [results, Tryz.results63, go_sem, q0, q1, q2, q3, q4, q5, Result.andThen]
  · exact ⟨⟨l, c, m, f, rfl⟩, H9.out.1.apart H9.out.2.2 kz (by omega), H9.out.2.1.trans kz (fun _ _ h => h) (fun i hi h => by omega)⟩
set_option maxRecDepth 100000 in
set_option maxHeartbeats 8000000 in
theorem nextSym93_c {w : World} {B : Nat} {o : Option Addr} {bb cap : Nat} {s : ByteArray} {p m : Nat} (hT : ∀ x, Keep (· = B) w x → Tabs x) (hB : B < w.heap.size) (h : LexIs w B o bb cap s p) (hsk : Sk s p m) (hms : m < s.size) (hc8 : at8 s m = 93) (hs : s.size ≤ 3000) :
    Calls Tryz.prog 63 #[.pointer (some ⟨B, 0, none⟩)] w (TokOut B o bb cap s w 7 ⟨#[93]⟩ (m + 1)) := by
  have HT := Lib.hid hT
  have H0 := Lib.hid (And.intro h hsk)
  clear hT h hsk
  go_enter Tryz.func63, Tryz.ntmps63
  go_wp2_with fail
  obtain ⟨w1, hw1⟩ : ∃ w1, w1 = w.alloc (.cells #[.int .i64 0, .string ⟨#[]⟩, .int .i64 0, .int .i64 0, .int .i64 0, .string ⟨#[]⟩] 144) := ⟨_, rfl⟩
  have k1 : Keep NoB w w1 := hw1 ▸ Keep.alloc _ _ _
  have hb1 : w1.heap[w.heap.size]? = some (tokO 0 ⟨#[]⟩ 0 0 0 ⟨#[]⟩) := hw1 ▸ (MapKept.heap_alloc _ _).1
  rw [← hw1]
  clear hw1
  have kB1 : Keep (· = B) w w1 := k1.mono fun _ _ h => h.elim
  refine (skipTo_c (fun x kx => HT.out x (kB1.trans kx (fun _ _ h => h) (fun _ _ h => h))) (H0.out.1.keep k1) H0.out.2 hs).mono ?_
  rintro e w2 ⟨rfl, hl2, k2⟩
  have hb2 := k2.heap hb1 (show ¬ w.heap.size = B by omega)
  have H2 := Lib.hid (And.intro hl2 (And.intro (kB1.trans k2 (M'' := (· = B)) (fun _ _ h => h) (fun _ _ h => h)) hb2))
  clear hl2 k2 hb1 hb2 kB1 k1
  go_wp2_with fail
  refine (position_c H2.out.1).mono ?_
  rintro e w3 ⟨⟨l, c, f, rfl⟩, k3⟩
  have hl3 := H2.out.1.keep k3
  have hb3 := k3.heap H2.out.2.2 (fun h => h)
  have hs1 := (Array.getElem?_eq_some_iff.1 hb3).1
  obtain ⟨w4, hw4⟩ : ∃ x, x = w3.alloc (.cells #[.string f, .int .i64 l, .int .i64 c, .int .i64 m] 142) := ⟨_, rfl⟩
  have k4 : Keep NoB w3 w4 := hw4 ▸ Keep.alloc _ _ _
  have hbP : w4.heap[w3.heap.size]? = some (.cells #[.string f, .int .i64 l, .int .i64 c, .int .i64 m] 142 (0, 0)) := hw4 ▸ (MapKept.heap_alloc _ _).1
  have hbT := k4.heap hb3 (fun h => h)
  have hl4 := hl3.keep k4
  obtain ⟨lL, lc, lf, hbk⟩ := hl4.blk
  obtain ⟨e0, e1, _⟩ := lexCells hbk
  have H4 := Lib.hid (And.intro hl4 (And.intro hbP (And.intro hbT (And.intro (H2.out.2.1.trans (k3.then k4) (M'' := (· = B)) (fun _ _ h => h) (fun _ _ h => h.elim)) hs1))))
  have h1 : ¬ (s.size : Int) ≤ (m : Int) := by omega
  clear hl3 hb3 hbP hbT k3 k4 hbk hl4 hs1
  go_upto_region 5 with fail
  rw [← hw4]
  clear hw4
  go_quiet (fail)
  obtain ⟨w5, hw5⟩ : ∃ x, x = w4.drewN nq := ⟨_, rfl⟩
  have k5 : Keep NoB w4 w5 := hw5 ▸ Keep.drewN _ _ _
  rw [← hw5]
  have H5 := Lib.hid (And.intro (H4.out.1.keep k5) (And.intro (k5.heap H4.out.2.1 (fun h => h)) (And.intro (k5.heap H4.out.2.2.1 (fun h => h)) (H4.out.2.2.2.1.then k5))))
  clear hw5 k5 e0 e1
  go_wp2_with fail
  have hP := peek_c (HT.out _ H5.out.2.2.2) H5.out.1 hms hs
  have hA8 := rune_ascii (s := s) (k := m) (by rw [hc8]; decide)
  rw [hA8.1, hc8] at hP
  have HP := Lib.hid hP
  have HA8 := Lib.hid hA8
  clear hP hA8
  refine HP.out.mono ?_
  rintro e w6 ⟨rfl, k6⟩
  have H6 := Lib.hid (And.intro (H5.out.1.keep k6) (And.intro (k6.heap H5.out.2.1 (fun h => h)) (And.intro (k6.heap H5.out.2.2.1 (fun h => h)) (H5.out.2.2.2.then k6))))
  clear k6
  go_wp2_with fail
  refine (isStart_c 93 _).mono ?_
  rintro e w7 ⟨rfl, hw7⟩
  obtain rfl : w6 = w7 := hw7.symm
  clear hw7
  rw [show isStart 93 = false from rfl]
  go_wp2_with fail
  have hA := advance_c (HT.out _ H6.out.2.2.2) H6.out.1 hms hs
  rw [HA8.out.1, HA8.out.2, hc8] at hA
  have HA := Lib.hid hA
  clear hA
  refine HA.out.mono ?_
  rintro e w8 ⟨rfl, hl8, k8⟩
  have hs1 := H4.out.2.2.2.2
  have hbT := k8.heap H6.out.2.2.1 (show ¬ w.heap.size = B by omega)
  have hbP := k8.heap H6.out.2.1 (show ¬ w3.heap.size = B by omega)
  have p0 : w8.cell? ⟨w3.heap.size, 0, none⟩ = some (.string f) ∧ w8.cell? ⟨w3.heap.size, 1, none⟩ = some (.int .i64 l) ∧ w8.cell? ⟨w3.heap.size, 2, none⟩ = some (.int .i64 c) ∧ w8.cell? ⟨w3.heap.size, 3, none⟩ = some (.int .i64 m) := by
    simp [World.cell?, hbP]
  obtain ⟨p0, p1, p2, p3⟩ := p0
  obtain ⟨g0, g1, g2, g3, g4, g5, z0, z1, z2, z3, z4, z5⟩ := tokCells hbT
  have H9 := Lib.hid (And.intro hl8 (And.intro (H6.out.2.2.2.trans k8 (M'' := (· = B)) (fun _ _ h => h) (fun _ _ h => h)) hbT))
  clear hbT hbP k8 hl8 hs1
  go_wp2_with fail
  obtain ⟨wz, hwz⟩ : ∃ wz, wz = (World.setCell (World.setCell (World.setCell (World.setCell (World.setCell (World.setCell w8 ⟨w.heap.size, 0, none⟩ (.int .i64 7)) ⟨w.heap.size, 1, none⟩ (.string f)) ⟨w.heap.size, 2, none⟩ (.int .i64 l)) ⟨w.heap.size, 3, none⟩ (.int .i64 c)) ⟨w.heap.size, 4, none⟩ (.int .i64 m)) ⟨w.heap.size, 5, none⟩ (.string ⟨#[93]⟩)) := ⟨_, rfl⟩
  obtain ⟨hz, kz⟩ := tokStored (k := 7) (N := w.heap.size) H9.out.2.2 hwz
  rw [← hwz]
  clear hwz
  obtain ⟨q0, q1, q2, q3, q4, q5, _⟩ := tokCells hz
  refine bodyPost_ret (v := .tuple #[.agg #[.int .i64 7, .string f, .int .i64 l, .int .i64 c, .int .i64 m, .string ⟨#[93]⟩], .nilIface]) ?_ rfl ?_
  · simp at q0
    simp [results, Tryz.results63, go_sem, q0, q1, q2, q3, q4, q5, Result.andThen]
  · exact ⟨⟨l, c, m, f, rfl⟩, H9.out.1.apart H9.out.2.2 kz (by omega), H9.out.2.1.trans kz (fun _ _ h => h) (fun i hi h => by omega)⟩
set_option maxRecDepth 100000 in
set_option maxHeartbeats 8000000 in
theorem nextSym60_c {w : World} {B : Nat} {o : Option Addr} {bb cap : Nat} {s : ByteArray} {p m : Nat} (hT : ∀ x, Keep (· = B) w x → Tabs x) (hB : B < w.heap.size) (h : LexIs w B o bb cap s p) (hsk : Sk s p m) (hms : m < s.size) (hc8 : at8 s m = 60) (hs : s.size ≤ 3000) :
    Calls Tryz.prog 63 #[.pointer (some ⟨B, 0, none⟩)] w (TokOut B o bb cap s w 8 ⟨#[60]⟩ (m + 1)) := by
  have HT := Lib.hid hT
  have H0 := Lib.hid (And.intro h hsk)
  clear hT h hsk
  go_enter Tryz.func63, Tryz.ntmps63
  go_wp2_with fail
  obtain ⟨w1, hw1⟩ : ∃ w1, w1 = w.alloc (.cells #[.int .i64 0, .string ⟨#[]⟩, .int .i64 0, .int .i64 0, .int .i64 0, .string ⟨#[]⟩] 144) := ⟨_, rfl⟩
  have k1 : Keep NoB w w1 := hw1 ▸ Keep.alloc _ _ _
  have hb1 : w1.heap[w.heap.size]? = some (tokO 0 ⟨#[]⟩ 0 0 0 ⟨#[]⟩) := hw1 ▸ (MapKept.heap_alloc _ _).1
  rw [← hw1]
  clear hw1
  have kB1 : Keep (· = B) w w1 := k1.mono fun _ _ h => h.elim
  refine (skipTo_c (fun x kx => HT.out x (kB1.trans kx (fun _ _ h => h) (fun _ _ h => h))) (H0.out.1.keep k1) H0.out.2 hs).mono ?_
  rintro e w2 ⟨rfl, hl2, k2⟩
  have hb2 := k2.heap hb1 (show ¬ w.heap.size = B by omega)
  have H2 := Lib.hid (And.intro hl2 (And.intro (kB1.trans k2 (M'' := (· = B)) (fun _ _ h => h) (fun _ _ h => h)) hb2))
  clear hl2 k2 hb1 hb2 kB1 k1
  go_wp2_with fail
  refine (position_c H2.out.1).mono ?_
  rintro e w3 ⟨⟨l, c, f, rfl⟩, k3⟩
  have hl3 := H2.out.1.keep k3
  have hb3 := k3.heap H2.out.2.2 (fun h => h)
  have hs1 := (Array.getElem?_eq_some_iff.1 hb3).1
  obtain ⟨w4, hw4⟩ : ∃ x, x = w3.alloc (.cells #[.string f, .int .i64 l, .int .i64 c, .int .i64 m] 142) := ⟨_, rfl⟩
  have k4 : Keep NoB w3 w4 := hw4 ▸ Keep.alloc _ _ _
  have hbP : w4.heap[w3.heap.size]? = some (.cells #[.string f, .int .i64 l, .int .i64 c, .int .i64 m] 142 (0, 0)) := hw4 ▸ (MapKept.heap_alloc _ _).1
  have hbT := k4.heap hb3 (fun h => h)
  have hl4 := hl3.keep k4
  obtain ⟨lL, lc, lf, hbk⟩ := hl4.blk
  obtain ⟨e0, e1, _⟩ := lexCells hbk
  have H4 := Lib.hid (And.intro hl4 (And.intro hbP (And.intro hbT (And.intro (H2.out.2.1.trans (k3.then k4) (M'' := (· = B)) (fun _ _ h => h) (fun _ _ h => h.elim)) hs1))))
  have h1 : ¬ (s.size : Int) ≤ (m : Int) := by omega
  clear hl3 hb3 hbP hbT k3 k4 hbk hl4 hs1
  go_upto_region 5 with fail
  rw [← hw4]
  clear hw4
  go_quiet (fail)
  obtain ⟨w5, hw5⟩ : ∃ x, x = w4.drewN nq := ⟨_, rfl⟩
  have k5 : Keep NoB w4 w5 := hw5 ▸ Keep.drewN _ _ _
  rw [← hw5]
  have H5 := Lib.hid (And.intro (H4.out.1.keep k5) (And.intro (k5.heap H4.out.2.1 (fun h => h)) (And.intro (k5.heap H4.out.2.2.1 (fun h => h)) (H4.out.2.2.2.1.then k5))))
  clear hw5 k5 e0 e1
  go_wp2_with fail
  have hP := peek_c (HT.out _ H5.out.2.2.2) H5.out.1 hms hs
  have hA8 := rune_ascii (s := s) (k := m) (by rw [hc8]; decide)
  rw [hA8.1, hc8] at hP
  have HP := Lib.hid hP
  have HA8 := Lib.hid hA8
  clear hP hA8
  refine HP.out.mono ?_
  rintro e w6 ⟨rfl, k6⟩
  have H6 := Lib.hid (And.intro (H5.out.1.keep k6) (And.intro (k6.heap H5.out.2.1 (fun h => h)) (And.intro (k6.heap H5.out.2.2.1 (fun h => h)) (H5.out.2.2.2.then k6))))
  clear k6
  go_wp2_with fail
  refine (isStart_c 60 _).mono ?_
  rintro e w7 ⟨rfl, hw7⟩
  obtain rfl : w6 = w7 := hw7.symm
  clear hw7
  rw [show isStart 60 = false from rfl]
  go_wp2_with fail
  have hA := advance_c (HT.out _ H6.out.2.2.2) H6.out.1 hms hs
  rw [HA8.out.1, HA8.out.2, hc8] at hA
  have HA := Lib.hid hA
  clear hA
  refine HA.out.mono ?_
  rintro e w8 ⟨rfl, hl8, k8⟩
  have hs1 := H4.out.2.2.2.2
  have hbT := k8.heap H6.out.2.2.1 (show ¬ w.heap.size = B by omega)
  have hbP := k8.heap H6.out.2.1 (show ¬ w3.heap.size = B by omega)
  have p0 : w8.cell? ⟨w3.heap.size, 0, none⟩ = some (.string f) ∧ w8.cell? ⟨w3.heap.size, 1, none⟩ = some (.int .i64 l) ∧ w8.cell? ⟨w3.heap.size, 2, none⟩ = some (.int .i64 c) ∧ w8.cell? ⟨w3.heap.size, 3, none⟩ = some (.int .i64 m) := by
    simp [World.cell?, hbP]
  obtain ⟨p0, p1, p2, p3⟩ := p0
  obtain ⟨g0, g1, g2, g3, g4, g5, z0, z1, z2, z3, z4, z5⟩ := tokCells hbT
  have H9 := Lib.hid (And.intro hl8 (And.intro (H6.out.2.2.2.trans k8 (M'' := (· = B)) (fun _ _ h => h) (fun _ _ h => h)) hbT))
  clear hbT hbP k8 hl8 hs1
  go_wp2_with fail
  obtain ⟨wz, hwz⟩ : ∃ wz, wz = (World.setCell (World.setCell (World.setCell (World.setCell (World.setCell (World.setCell w8 ⟨w.heap.size, 0, none⟩ (.int .i64 8)) ⟨w.heap.size, 1, none⟩ (.string f)) ⟨w.heap.size, 2, none⟩ (.int .i64 l)) ⟨w.heap.size, 3, none⟩ (.int .i64 c)) ⟨w.heap.size, 4, none⟩ (.int .i64 m)) ⟨w.heap.size, 5, none⟩ (.string ⟨#[60]⟩)) := ⟨_, rfl⟩
  obtain ⟨hz, kz⟩ := tokStored (k := 8) (N := w.heap.size) H9.out.2.2 hwz
  rw [← hwz]
  clear hwz
  obtain ⟨q0, q1, q2, q3, q4, q5, _⟩ := tokCells hz
  refine bodyPost_ret (v := .tuple #[.agg #[.int .i64 8, .string f, .int .i64 l, .int .i64 c, .int .i64 m, .string ⟨#[60]⟩], .nilIface]) ?_ rfl ?_
  · simp at q0
    simp [results, Tryz.results63, go_sem, q0, q1, q2, q3, q4, q5, Result.andThen]
  · exact ⟨⟨l, c, m, f, rfl⟩, H9.out.1.apart H9.out.2.2 kz (by omega), H9.out.2.1.trans kz (fun _ _ h => h) (fun i hi h => by omega)⟩
set_option maxRecDepth 100000 in
set_option maxHeartbeats 8000000 in
theorem nextSym62_c {w : World} {B : Nat} {o : Option Addr} {bb cap : Nat} {s : ByteArray} {p m : Nat} (hT : ∀ x, Keep (· = B) w x → Tabs x) (hB : B < w.heap.size) (h : LexIs w B o bb cap s p) (hsk : Sk s p m) (hms : m < s.size) (hc8 : at8 s m = 62) (hs : s.size ≤ 3000) :
    Calls Tryz.prog 63 #[.pointer (some ⟨B, 0, none⟩)] w (TokOut B o bb cap s w 9 ⟨#[62]⟩ (m + 1)) := by
  have HT := Lib.hid hT
  have H0 := Lib.hid (And.intro h hsk)
  clear hT h hsk
  go_enter Tryz.func63, Tryz.ntmps63
  go_wp2_with fail
  obtain ⟨w1, hw1⟩ : ∃ w1, w1 = w.alloc (.cells #[.int .i64 0, .string ⟨#[]⟩, .int .i64 0, .int .i64 0, .int .i64 0, .string ⟨#[]⟩] 144) := ⟨_, rfl⟩
  have k1 : Keep NoB w w1 := hw1 ▸ Keep.alloc _ _ _
  have hb1 : w1.heap[w.heap.size]? = some (tokO 0 ⟨#[]⟩ 0 0 0 ⟨#[]⟩) := hw1 ▸ (MapKept.heap_alloc _ _).1
  rw [← hw1]
  clear hw1
  have kB1 : Keep (· = B) w w1 := k1.mono fun _ _ h => h.elim
  refine (skipTo_c (fun x kx => HT.out x (kB1.trans kx (fun _ _ h => h) (fun _ _ h => h))) (H0.out.1.keep k1) H0.out.2 hs).mono ?_
  rintro e w2 ⟨rfl, hl2, k2⟩
  have hb2 := k2.heap hb1 (show ¬ w.heap.size = B by omega)
  have H2 := Lib.hid (And.intro hl2 (And.intro (kB1.trans k2 (M'' := (· = B)) (fun _ _ h => h) (fun _ _ h => h)) hb2))
  clear hl2 k2 hb1 hb2 kB1 k1
  go_wp2_with fail
  refine (position_c H2.out.1).mono ?_
  rintro e w3 ⟨⟨l, c, f, rfl⟩, k3⟩
  have hl3 := H2.out.1.keep k3
  have hb3 := k3.heap H2.out.2.2 (fun h => h)
  have hs1 := (Array.getElem?_eq_some_iff.1 hb3).1
  obtain ⟨w4, hw4⟩ : ∃ x, x = w3.alloc (.cells #[.string f, .int .i64 l, .int .i64 c, .int .i64 m] 142) := ⟨_, rfl⟩
  have k4 : Keep NoB w3 w4 := hw4 ▸ Keep.alloc _ _ _
  have hbP : w4.heap[w3.heap.size]? = some (.cells #[.string f, .int .i64 l, .int .i64 c, .int .i64 m] 142 (0, 0)) := hw4 ▸ (MapKept.heap_alloc _ _).1
  have hbT := k4.heap hb3 (fun h => h)
  have hl4 := hl3.keep k4
  obtain ⟨lL, lc, lf, hbk⟩ := hl4.blk
  obtain ⟨e0, e1, _⟩ := lexCells hbk
  have H4 := Lib.hid (And.intro hl4 (And.intro hbP (And.intro hbT (And.intro (H2.out.2.1.trans (k3.then k4) (M'' := (· = B)) (fun _ _ h => h) (fun _ _ h => h.elim)) hs1))))
  have h1 : ¬ (s.size : Int) ≤ (m : Int) := by omega
  clear hl3 hb3 hbP hbT k3 k4 hbk hl4 hs1
  go_upto_region 5 with fail
  rw [← hw4]
  clear hw4
  go_quiet (fail)
  obtain ⟨w5, hw5⟩ : ∃ x, x = w4.drewN nq := ⟨_, rfl⟩
  have k5 : Keep NoB w4 w5 := hw5 ▸ Keep.drewN _ _ _
  rw [← hw5]
  have H5 := Lib.hid (And.intro (H4.out.1.keep k5) (And.intro (k5.heap H4.out.2.1 (fun h => h)) (And.intro (k5.heap H4.out.2.2.1 (fun h => h)) (H4.out.2.2.2.1.then k5))))
  clear hw5 k5 e0 e1
  go_wp2_with fail
  have hP := peek_c (HT.out _ H5.out.2.2.2) H5.out.1 hms hs
  have hA8 := rune_ascii (s := s) (k := m) (by rw [hc8]; decide)
  rw [hA8.1, hc8] at hP
  have HP := Lib.hid hP
  have HA8 := Lib.hid hA8
  clear hP hA8
  refine HP.out.mono ?_
  rintro e w6 ⟨rfl, k6⟩
  have H6 := Lib.hid (And.intro (H5.out.1.keep k6) (And.intro (k6.heap H5.out.2.1 (fun h => h)) (And.intro (k6.heap H5.out.2.2.1 (fun h => h)) (H5.out.2.2.2.then k6))))
  clear k6
  go_wp2_with fail
  refine (isStart_c 62 _).mono ?_
  rintro e w7 ⟨rfl, hw7⟩
  obtain rfl : w6 = w7 := hw7.symm
  clear hw7
  rw [show isStart 62 = false from rfl]
  go_wp2_with fail
  have hA := advance_c (HT.out _ H6.out.2.2.2) H6.out.1 hms hs
  rw [HA8.out.1, HA8.out.2, hc8] at hA
  have HA := Lib.hid hA
  clear hA
  refine HA.out.mono ?_
  rintro e w8 ⟨rfl, hl8, k8⟩
  have hs1 := H4.out.2.2.2.2
  have hbT := k8.heap H6.out.2.2.1 (show ¬ w.heap.size = B by omega)
  have hbP := k8.heap H6.out.2.1 (show ¬ w3.heap.size = B by omega)
  have p0 : w8.cell? ⟨w3.heap.size, 0, none⟩ = some (.string f) ∧ w8.cell? ⟨w3.heap.size, 1, none⟩ = some (.int .i64 l) ∧ w8.cell? ⟨w3.heap.size, 2, none⟩ = some (.int .i64 c) ∧ w8.cell? ⟨w3.heap.size, 3, none⟩ = some (.int .i64 m) := by
    simp [World.cell?, hbP]
  obtain ⟨p0, p1, p2, p3⟩ := p0
  obtain ⟨g0, g1, g2, g3, g4, g5, z0, z1, z2, z3, z4, z5⟩ := tokCells hbT
  have H9 := Lib.hid (And.intro hl8 (And.intro (H6.out.2.2.2.trans k8 (M'' := (· = B)) (fun _ _ h => h) (fun _ _ h => h)) hbT))
  clear hbT hbP k8 hl8 hs1
  go_wp2_with fail
  obtain ⟨wz, hwz⟩ : ∃ wz, wz = (World.setCell (World.setCell (World.setCell (World.setCell (World.setCell (World.setCell w8 ⟨w.heap.size, 0, none⟩ (.int .i64 9)) ⟨w.heap.size, 1, none⟩ (.string f)) ⟨w.heap.size, 2, none⟩ (.int .i64 l)) ⟨w.heap.size, 3, none⟩ (.int .i64 c)) ⟨w.heap.size, 4, none⟩ (.int .i64 m)) ⟨w.heap.size, 5, none⟩ (.string ⟨#[62]⟩)) := ⟨_, rfl⟩
  obtain ⟨hz, kz⟩ := tokStored (k := 9) (N := w.heap.size) H9.out.2.2 hwz
  rw [← hwz]
  clear hwz
  obtain ⟨q0, q1, q2, q3, q4, q5, _⟩ := tokCells hz
  refine bodyPost_ret (v := .tuple #[.agg #[.int .i64 9, .string f, .int .i64 l, .int .i64 c, .int .i64 m, .string ⟨#[62]⟩], .nilIface]) ?_ rfl ?_
  · simp at q0
    simp [results, Tryz.results63, go_sem, q0, q1, q2, q3, q4, q5, Result.andThen]
  · exact ⟨⟨l, c, m, f, rfl⟩, H9.out.1.apart H9.out.2.2 kz (by omega), H9.out.2.1.trans kz (fun _ _ h => h) (fun i hi h => by omega)⟩
set_option maxRecDepth 100000 in
set_option maxHeartbeats 8000000 in
theorem nextSym40_c {w : World} {B : Nat} {o : Option Addr} {bb cap : Nat} {s : ByteArray} {p m : Nat} (hT : ∀ x, Keep (· = B) w x → Tabs x) (hB : B < w.heap.size) (h : LexIs w B o bb cap s p) (hsk : Sk s p m) (hms : m < s.size) (hc8 : at8 s m = 40) (hs : s.size ≤ 3000) :
    Calls Tryz.prog 63 #[.pointer (some ⟨B, 0, none⟩)] w (TokOut B o bb cap s w 10 ⟨#[40]⟩ (m + 1)) := by
  have HT := Lib.hid hT
  have H0 := Lib.hid (And.intro h hsk)
  clear hT h hsk
  go_enter Tryz.func63, Tryz.ntmps63
  go_wp2_with fail
  obtain ⟨w1, hw1⟩ : ∃ w1, w1 = w.alloc (.cells #[.int .i64 0, .string ⟨#[]⟩, .int .i64 0, .int .i64 0, .int .i64 0, .string ⟨#[]⟩] 144) := ⟨_, rfl⟩
  have k1 : Keep NoB w w1 := hw1 ▸ Keep.alloc _ _ _
  have hb1 : w1.heap[w.heap.size]? = some (tokO 0 ⟨#[]⟩ 0 0 0 ⟨#[]⟩) := hw1 ▸ (MapKept.heap_alloc _ _).1
  rw [← hw1]
  clear hw1
  have kB1 : Keep (· = B) w w1 := k1.mono fun _ _ h => h.elim
  refine (skipTo_c (fun x kx => HT.out x (kB1.trans kx (fun _ _ h => h) (fun _ _ h => h))) (H0.out.1.keep k1) H0.out.2 hs).mono ?_
  rintro e w2 ⟨rfl, hl2, k2⟩
  have hb2 := k2.heap hb1 (show ¬ w.heap.size = B by omega)
  have H2 := Lib.hid (And.intro hl2 (And.intro (kB1.trans k2 (M'' := (· = B)) (fun _ _ h => h) (fun _ _ h => h)) hb2))
  clear hl2 k2 hb1 hb2 kB1 k1
  go_wp2_with fail
  refine (position_c H2.out.1).mono ?_
  rintro e w3 ⟨⟨l, c, f, rfl⟩, k3⟩
  have hl3 := H2.out.1.keep k3
  have hb3 := k3.heap H2.out.2.2 (fun h => h)
  have hs1 := (Array.getElem?_eq_some_iff.1 hb3).1
  obtain ⟨w4, hw4⟩ : ∃ x, x = w3.alloc (.cells #[.string f, .int .i64 l, .int .i64 c, .int .i64 m] 142) := ⟨_, rfl⟩
  have k4 : Keep NoB w3 w4 := hw4 ▸ Keep.alloc _ _ _
  have hbP : w4.heap[w3.heap.size]? = some (.cells #[.string f, .int .i64 l, .int .i64 c, .int .i64 m] 142 (0, 0)) := hw4 ▸ (MapKept.heap_alloc _ _).1
  have hbT := k4.heap hb3 (fun h => h)
  have hl4 := hl3.keep k4
  obtain ⟨lL, lc, lf, hbk⟩ := hl4.blk
  obtain ⟨e0, e1, _⟩ := lexCells hbk
  have H4 := Lib.hid (And.intro hl4 (And.intro hbP (And.intro hbT (And.intro (H2.out.2.1.trans (k3.then k4) (M'' := (· = B)) (fun _ _ h => h) (fun _ _ h => h.elim)) hs1))))
  have h1 : ¬ (s.size : Int) ≤ (m : Int) := by omega
  clear hl3 hb3 hbP hbT k3 k4 hbk hl4 hs1
  go_upto_region 5 with fail
  rw [← hw4]
  clear hw4
  go_quiet (fail)
  obtain ⟨w5, hw5⟩ : ∃ x, x = w4.drewN nq := ⟨_, rfl⟩
  have k5 : Keep NoB w4 w5 := hw5 ▸ Keep.drewN _ _ _
  rw [← hw5]
  have H5 := Lib.hid (And.intro (H4.out.1.keep k5) (And.intro (k5.heap H4.out.2.1 (fun h => h)) (And.intro (k5.heap H4.out.2.2.1 (fun h => h)) (H4.out.2.2.2.1.then k5))))
  clear hw5 k5 e0 e1
  go_wp2_with fail
  have hP := peek_c (HT.out _ H5.out.2.2.2) H5.out.1 hms hs
  have hA8 := rune_ascii (s := s) (k := m) (by rw [hc8]; decide)
  rw [hA8.1, hc8] at hP
  have HP := Lib.hid hP
  have HA8 := Lib.hid hA8
  clear hP hA8
  refine HP.out.mono ?_
  rintro e w6 ⟨rfl, k6⟩
  have H6 := Lib.hid (And.intro (H5.out.1.keep k6) (And.intro (k6.heap H5.out.2.1 (fun h => h)) (And.intro (k6.heap H5.out.2.2.1 (fun h => h)) (H5.out.2.2.2.then k6))))
  clear k6
  go_wp2_with fail
  refine (isStart_c 40 _).mono ?_
  rintro e w7 ⟨rfl, hw7⟩
  obtain rfl : w6 = w7 := hw7.symm
  clear hw7
  rw [show isStart 40 = false from rfl]
  go_wp2_with fail
  have hA := advance_c (HT.out _ H6.out.2.2.2) H6.out.1 hms hs
  rw [HA8.out.1, HA8.out.2, hc8] at hA
  have HA := Lib.hid hA
  clear hA
  refine HA.out.mono ?_
  rintro e w8 ⟨rfl, hl8, k8⟩
  have hs1 := H4.out.2.2.2.2
  have hbT := k8.heap H6.out.2.2.1 (show ¬ w.heap.size = B by omega)
  have hbP := k8.heap H6.out.2.1 (show ¬ w3.heap.size = B by omega)
  have p0 : w8.cell? ⟨w3.heap.size, 0, none⟩ = some (.string f) ∧ w8.cell? ⟨w3.heap.size, 1, none⟩ = some (.int .i64 l) ∧ w8.cell? ⟨w3.heap.size, 2, none⟩ = some (.int .i64 c) ∧ w8.cell? ⟨w3.heap.size, 3, none⟩ = some (.int .i64 m) := by
    simp [World.cell?, hbP]
  obtain ⟨p0, p1, p2, p3⟩ := p0
  obtain ⟨g0, g1, g2, g3, g4, g5, z0, z1, z2, z3, z4, z5⟩ := tokCells hbT
  have H9 := Lib.hid (And.intro hl8 (And.intro (H6.out.2.2.2.trans k8 (M'' := (· = B)) (fun _ _ h => h) (fun _ _ h => h)) hbT))
  clear hbT hbP k8 hl8 hs1
  go_wp2_with fail
  obtain ⟨wz, hwz⟩ : ∃ wz, wz = (World.setCell (World.setCell (World.setCell (World.setCell (World.setCell (World.setCell w8 ⟨w.heap.size, 0, none⟩ (.int .i64 10)) ⟨w.heap.size, 1, none⟩ (.string f)) ⟨w.heap.size, 2, none⟩ (.int .i64 l)) ⟨w.heap.size, 3, none⟩ (.int .i64 c)) ⟨w.heap.size, 4, none⟩ (.int .i64 m)) ⟨w.heap.size, 5, none⟩ (.string ⟨#[40]⟩)) := ⟨_, rfl⟩
  obtain ⟨hz, kz⟩ := tokStored (k := 10) (N := w.heap.size) H9.out.2.2 hwz
  rw [← hwz]
  clear hwz
  obtain ⟨q0, q1, q2, q3, q4, q5, _⟩ := tokCells hz
  refine bodyPost_ret (v := .tuple #[.agg #[.int .i64 10, .string f, .int .i64 l, .int .i64 c, .int .i64 m, .string ⟨#[40]⟩], .nilIface]) ?_ rfl ?_
  · simp at q0
    simp [results, Tryz.results63, go_sem, q0, q1, q2, q3, q4, q5, Result.andThen]
  · exact ⟨⟨l, c, m, f, rfl⟩, H9.out.1.apart H9.out.2.2 kz (by omega), H9.out.2.1.trans kz (fun _ _ h => h) (fun i hi h => by omega)⟩
set_option maxRecDepth 100000 in
set_option maxHeartbeats 8000000 in
theorem nextSym41_c {w : World} {B : Nat} {o : Option Addr} {bb cap : Nat} {s : ByteArray} {p m : Nat} (hT : ∀ x, Keep (· = B) w x → Tabs x) (hB : B < w.heap.size) (h : LexIs w B o bb cap s p) (hsk : Sk s p m) (hms : m < s.size) (hc8 : at8 s m = 41) (hs : s.size ≤ 3000) :
    Calls Tryz.prog 63 #[.pointer (some ⟨B, 0, none⟩)] w (TokOut B o bb cap s w 11 ⟨#[41]⟩ (m + 1)) := by
  have HT := Lib.hid hT
  have H0 := Lib.hid (And.intro h hsk)
  clear hT h hsk
  go_enter Tryz.func63, Tryz.ntmps63
  go_wp2_with fail
  obtain ⟨w1, hw1⟩ : ∃ w1, w1 = w.alloc (.cells #[.int .i64 0, .string ⟨#[]⟩, .int .i64 0, .int .i64 0, .int .i64 0, .string ⟨#[]⟩] 144) := ⟨_, rfl⟩
  have k1 : Keep NoB w w1 := hw1 ▸ Keep.alloc _ _ _
  have hb1 : w1.heap[w.heap.size]? = some (tokO 0 ⟨#[]⟩ 0 0 0 ⟨#[]⟩) := hw1 ▸ (MapKept.heap_alloc _ _).1
  rw [← hw1]
  clear hw1
  have kB1 : Keep (· = B) w w1 := k1.mono fun _ _ h => h.elim
  refine (skipTo_c (fun x kx => HT.out x (kB1.trans kx (fun _ _ h => h) (fun _ _ h => h))) (H0.out.1.keep k1) H0.out.2 hs).mono ?_
  rintro e w2 ⟨rfl, hl2, k2⟩
  have hb2 := k2.heap hb1 (show ¬ w.heap.size = B by omega)
  have H2 := Lib.hid (And.intro hl2 (And.intro (kB1.trans k2 (M'' := (· = B)) (fun _ _ h => h) (fun _ _ h => h)) hb2))
  clear hl2 k2 hb1 hb2 kB1 k1
  go_wp2_with fail
  refine (position_c H2.out.1).mono ?_
  rintro e w3 ⟨⟨l, c, f, rfl⟩, k3⟩
  have hl3 := H2.out.1.keep k3
  have hb3 := k3.heap H2.out.2.2 (fun h => h)
  have hs1 := (Array.getElem?_eq_some_iff.1 hb3).1
  obtain ⟨w4, hw4⟩ : ∃ x, x = w3.alloc (.cells #[.string f, .int .i64 l, .int .i64 c, .int .i64 m] 142) := ⟨_, rfl⟩
  have k4 : Keep NoB w3 w4 := hw4 ▸ Keep.alloc _ _ _
  have hbP : w4.heap[w3.heap.size]? = some (.cells #[.string f, .int .i64 l, .int .i64 c, .int .i64 m] 142 (0, 0)) := hw4 ▸ (MapKept.heap_alloc _ _).1
  have hbT := k4.heap hb3 (fun h => h)
  have hl4 := hl3.keep k4
  obtain ⟨lL, lc, lf, hbk⟩ := hl4.blk
  obtain ⟨e0, e1, _⟩ := lexCells hbk
  have H4 := Lib.hid (And.intro hl4 (And.intro hbP (And.intro hbT (And.intro (H2.out.2.1.trans (k3.then k4) (M'' := (· = B)) (fun _ _ h => h) (fun _ _ h => h.elim)) hs1))))
  have h1 : ¬ (s.size : Int) ≤ (m : Int) := by omega
  clear hl3 hb3 hbP hbT k3 k4 hbk hl4 hs1
  go_upto_region 5 with fail
  rw [← hw4]
  clear hw4
  go_quiet (fail)
  obtain ⟨w5, hw5⟩ : ∃ x, x = w4.drewN nq := ⟨_, rfl⟩
  have k5 : Keep NoB w4 w5 := hw5 ▸ Keep.drewN _ _ _
  rw [← hw5]
  have H5 := Lib.hid (And.intro (H4.out.1.keep k5) (And.intro (k5.heap H4.out.2.1 (fun h => h)) (And.intro (k5.heap H4.out.2.2.1 (fun h => h)) (H4.out.2.2.2.1.then k5))))
  clear hw5 k5 e0 e1
  go_wp2_with fail
  have hP := peek_c (HT.out _ H5.out.2.2.2) H5.out.1 hms hs
  have hA8 := rune_ascii (s := s) (k := m) (by rw [hc8]; decide)
  rw [hA8.1, hc8] at hP
  have HP := Lib.hid hP
  have HA8 := Lib.hid hA8
  clear hP hA8
  refine HP.out.mono ?_
  rintro e w6 ⟨rfl, k6⟩
  have H6 := Lib.hid (And.intro (H5.out.1.keep k6) (And.intro (k6.heap H5.out.2.1 (fun h => h)) (And.intro (k6.heap H5.out.2.2.1 (fun h => h)) (H5.out.2.2.2.then k6))))
  clear k6
  go_wp2_with fail
  refine (isStart_c 41 _).mono ?_
  rintro e w7 ⟨rfl, hw7⟩
  obtain rfl : w6 = w7 := hw7.symm
  clear hw7
  rw [show isStart 41 = false from rfl]
  go_wp2_with fail
  have hA := advance_c (HT.out _ H6.out.2.2.2) H6.out.1 hms hs
  rw [HA8.out.1, HA8.out.2, hc8] at hA
  have HA := Lib.hid hA
  clear hA
  refine HA.out.mono ?_
  rintro e w8 ⟨rfl, hl8, k8⟩
  have hs1 := H4.out.2.2.2.2
  have hbT := k8.heap H6.out.2.2.1 (show ¬ w.heap.size = B by omega)
  have hbP := k8.heap H6.out.2.1 (show ¬ w3.heap.size = B by omega)
  have p0 : w8.cell? ⟨w3.heap.size, 0, none⟩ = some (.string f) ∧ w8.cell? ⟨w3.heap.size, 1, none⟩ = some (.int .i64 l) ∧ w8.cell? ⟨w3.heap.size, 2, none⟩ = some (.int .i64 c) ∧ w8.cell? ⟨w3.heap.size, 3, none⟩ = some (.int .i64 m) := by
    simp [World.cell?, hbP]
  obtain ⟨p0, p1, p2, p3⟩ := p0
  obtain ⟨g0, g1, g2, g3, g4, g5, z0, z1, z2, z3, z4, z5⟩ := tokCells hbT
  have H9 := Lib.hid (And.intro hl8 (And.intro (H6.out.2.2.2.trans k8 (M'' := (· = B)) (fun _ _ h => h) (fun _ _ h => h)) hbT))
  clear hbT hbP k8 hl8 hs1
  go_wp2_with fail
  obtain ⟨wz, hwz⟩ : ∃ wz, wz = (World.setCell (World.setCell (World.setCell (World.setCell (World.setCell (World.setCell w8 ⟨w.heap.size, 0, none⟩ (.int .i64 11)) ⟨w.heap.size, 1, none⟩ (.string f)) ⟨w.heap.size, 2, none⟩ (.int .i64 l)) ⟨w.heap.size, 3, none⟩ (.int .i64 c)) ⟨w.heap.size, 4, none⟩ (.int .i64 m)) ⟨w.heap.size, 5, none⟩ (.string ⟨#[41]⟩)) := ⟨_, rfl⟩
  obtain ⟨hz, kz⟩ := tokStored (k := 11) (N := w.heap.size) H9.out.2.2 hwz
  rw [← hwz]
  clear hwz
  obtain ⟨q0, q1, q2, q3, q4, q5, _⟩ := tokCells hz
  refine bodyPost_ret (v := .tuple #[.agg #[.int .i64 11, .string f, .int .i64 l, .int .i64 c, .int .i64 m, .string ⟨#[41]⟩], .nilIface]) ?_ rfl ?_
  · simp at q0
    simp [results, Tryz.results63, go_sem, q0, q1, q2, q3, q4, q5, Result.andThen]
  · exact ⟨⟨l, c, m, f, rfl⟩, H9.out.1.apart H9.out.2.2 kz (by omega), H9.out.2.1.trans kz (fun _ _ h => h) (fun i hi h => by omega)⟩
set_option maxRecDepth 100000 in
set_option maxHeartbeats 8000000 in
theorem nextSym44_c {w : World} {B : Nat} {o : Option Addr} {bb cap : Nat} {s : ByteArray} {p m : Nat} (hT : ∀ x, Keep (· = B) w x → Tabs x) (hB : B < w.heap.size) (h : LexIs w B o bb cap s p) (hsk : Sk s p m) (hms : m < s.size) (hc8 : at8 s m = 44) (hs : s.size ≤ 3000) :
    Calls Tryz.prog 63 #[.pointer (some ⟨B, 0, none⟩)] w (TokOut B o bb cap s w 12 ⟨#[44]⟩ (m + 1)) := by
  have HT := Lib.hid hT
  have H0 := Lib.hid (And.intro h hsk)
  clear hT h hsk
  go_enter Tryz.func63, Tryz.ntmps63
  go_wp2_with fail
  obtain ⟨w1, hw1⟩ : ∃ w1, w1 = w.alloc (.cells #[.int .i64 0, .string ⟨#[]⟩, .int .i64 0, .int .i64 0, .int .i64 0, .string ⟨#[]⟩] 144) := ⟨_, rfl⟩
  have k1 : Keep NoB w w1 := hw1 ▸ Keep.alloc _ _ _
  have hb1 : w1.heap[w.heap.size]? = some (tokO 0 ⟨#[]⟩ 0 0 0 ⟨#[]⟩) := hw1 ▸ (MapKept.heap_alloc _ _).1
  rw [← hw1]
  clear hw1
  have kB1 : Keep (· = B) w w1 := k1.mono fun _ _ h => h.elim
  refine (skipTo_c (fun x kx => HT.out x (kB1.trans kx (fun _ _ h => h) (fun _ _ h => h))) (H0.out.1.keep k1) H0.out.2 hs).mono ?_
  rintro e w2 ⟨rfl, hl2, k2⟩
  have hb2 := k2.heap hb1 (show ¬ w.heap.size = B by omega)
  have H2 := Lib.hid (And.intro hl2 (And.intro (kB1.trans k2 (M'' := (· = B)) (fun _ _ h => h) (fun _ _ h => h)) hb2))
  clear hl2 k2 hb1 hb2 kB1 k1
  go_wp2_with fail
  refine (position_c H2.out.1).mono ?_
  rintro e w3 ⟨⟨l, c, f, rfl⟩, k3⟩
  have hl3 := H2.out.1.keep k3
  have hb3 := k3.heap H2.out.2.2 (fun h => h)
  have hs1 := (Array.getElem?_eq_some_iff.1 hb3).1
  obtain ⟨w4, hw4⟩ : ∃ x, x = w3.alloc (.cells #[.string f, .int .i64 l, .int .i64 c, .int .i64 m] 142) := ⟨_, rfl⟩
  have k4 : Keep NoB w3 w4 := hw4 ▸ Keep.alloc _ _ _
  have hbP : w4.heap[w3.heap.size]? = some (.cells #[.string f, .int .i64 l, .int .i64 c, .int .i64 m] 142 (0, 0)) := hw4 ▸ (MapKept.heap_alloc _ _).1
  have hbT := k4.heap hb3 (fun h => h)
  have hl4 := hl3.keep k4
  obtain ⟨lL, lc, lf, hbk⟩ := hl4.blk
  obtain ⟨e0, e1, _⟩ := lexCells hbk
  have H4 := Lib.hid (And.intro hl4 (And.intro hbP (And.intro hbT (And.intro (H2.out.2.1.trans (k3.then k4) (M'' := (· = B)) (fun _ _ h => h) (fun _ _ h => h.elim)) hs1))))
  have h1 : ¬ (s.size : Int) ≤ (m : Int) := by omega
  clear hl3 hb3 hbP hbT k3 k4 hbk hl4 hs1
  go_upto_region 5 with fail
  rw [← hw4]
  clear hw4
  go_quiet (fail)
  obtain ⟨w5, hw5⟩ : ∃ x, x = w4.drewN nq := ⟨_, rfl⟩
  have k5 : Keep NoB w4 w5 := hw5 ▸ Keep.drewN _ _ _
  rw [← hw5]
  have H5 := Lib.hid (And.intro (H4.out.1.keep k5) (And.intro (k5.heap H4.out.2.1 (fun h => h)) (And.intro (k5.heap H4.out.2.2.1 (fun h => h)) (H4.out.2.2.2.1.then k5))))
  clear hw5 k5 e0 e1
  go_wp2_with fail
  have hP := peek_c (HT.out _ H5.out.2.2.2) H5.out.1 hms hs
  have hA8 := rune_ascii (s := s) (k := m) (by rw [hc8]; decide)
  rw [hA8.1, hc8] at hP
  have HP := Lib.hid hP
  have HA8 := Lib.hid hA8
  clear hP hA8
  refine HP.out.mono ?_
  rintro e w6 ⟨rfl, k6⟩
  have H6 := Lib.hid (And.intro (H5.out.1.keep k6) (And.intro (k6.heap H5.out.2.1 (fun h => h)) (And.intro (k6.heap H5.out.2.2.1 (fun h => h)) (H5.out.2.2.2.then k6))))
  clear k6
  go_wp2_with fail
  refine (isStart_c 44 _).mono ?_
  rintro e w7 ⟨rfl, hw7⟩
  obtain rfl : w6 = w7 := hw7.symm
  clear hw7
  rw [show isStart 44 = false from rfl]
  go_wp2_with fail
  have hA := advance_c (HT.out _ H6.out.2.2.2) H6.out.1 hms hs
  rw [HA8.out.1, HA8.out.2, hc8] at hA
  have HA := Lib.hid hA
  clear hA
  refine HA.out.mono ?_
  rintro e w8 ⟨rfl, hl8, k8⟩
  have hs1 := H4.out.2.2.2.2
  have hbT := k8.heap H6.out.2.2.1 (show ¬ w.heap.size = B by omega)
  have hbP := k8.heap H6.out.2.1 (show ¬ w3.heap.size = B by omega)
  have p0 : w8.cell? ⟨w3.heap.size, 0, none⟩ = some (.string f) ∧ w8.cell? ⟨w3.heap.size, 1, none⟩ = some (.int .i64 l) ∧ w8.cell? ⟨w3.heap.size, 2, none⟩ = some (.int .i64 c) ∧ w8.cell? ⟨w3.heap.size, 3, none⟩ = some (.int .i64 m) := by
    simp [World.cell?, hbP]
  obtain ⟨p0, p1, p2, p3⟩ := p0
  obtain ⟨g0, g1, g2, g3, g4, g5, z0, z1, z2, z3, z4, z5⟩ := tokCells hbT
  have H9 := Lib.hid (And.intro hl8 (And.intro (H6.out.2.2.2.trans k8 (M'' := (· = B)) (fun _ _ h => h) (fun _ _ h => h)) hbT))
  clear hbT hbP k8 hl8 hs1
  go_wp2_with fail
  obtain ⟨wz, hwz⟩ : ∃ wz, wz = (World.setCell (World.setCell (World.setCell (World.setCell (World.setCell (World.setCell w8 ⟨w.heap.size, 0, none⟩ (.int .i64 12)) ⟨w.heap.size, 1, none⟩ (.string f)) ⟨w.heap.size, 2, none⟩ (.int .i64 l)) ⟨w.heap.size, 3, none⟩ (.int .i64 c)) ⟨w.heap.size, 4, none⟩ (.int .i64 m)) ⟨w.heap.size, 5, none⟩ (.string ⟨#[44]⟩)) := ⟨_, rfl⟩
  obtain ⟨hz, kz⟩ := tokStored (k := 12) (N := w.heap.size) H9.out.2.2 hwz
  rw [← hwz]
  clear hwz
  obtain ⟨q0, q1, q2, q3, q4, q5, _⟩ := tokCells hz
  refine bodyPost_ret (v := .tuple #[.agg #[.int .i64 12, .string f, .int .i64 l, .int .i64 c, .int .i64 m, .string ⟨#[44]⟩], .nilIface]) ?_ rfl ?_
  · simp at q0
    simp [results, Tryz.results63, go_sem, q0, q1, q2, q3, q4, q5, Result.andThen]
  · exact ⟨⟨l, c, m, f, rfl⟩, H9.out.1.apart H9.out.2.2 kz (by omega), H9.out.2.1.trans kz (fun _ _ h => h) (fun i hi h => by omega)⟩
set_option maxRecDepth 100000 in
set_option maxHeartbeats 8000000 in
theorem nextSym59_c {w : World} {B : Nat} {o : Option Addr} {bb cap : Nat} {s : ByteArray} {p m : Nat} (hT : ∀ x, Keep (· = B) w x → Tabs x) (hB : B < w.heap.size) (h : LexIs w B o bb cap s p) (hsk : Sk s p m) (hms : m < s.size) (hc8 : at8 s m = 59) (hs : s.size ≤ 3000) :
    Calls Tryz.prog 63 #[.pointer (some ⟨B, 0, none⟩)] w (TokOut B o bb cap s w 13 ⟨#[59]⟩ (m + 1)) := by
  have HT := Lib.hid hT
  have H0 := Lib.hid (And.intro h hsk)
  clear hT h hsk
  go_enter Tryz.func63, Tryz.ntmps63
  go_wp2_with fail
  obtain ⟨w1, hw1⟩ : ∃ w1, w1 = w.alloc (.cells #[.int .i64 0, .string ⟨#[]⟩, .int .i64 0, .int .i64 0, .int .i64 0, .string ⟨#[]⟩] 144) := ⟨_, rfl⟩
  have k1 : Keep NoB w w1 := hw1 ▸ Keep.alloc _ _ _
  have hb1 : w1.heap[w.heap.size]? = some (tokO 0 ⟨#[]⟩ 0 0 0 ⟨#[]⟩) := hw1 ▸ (MapKept.heap_alloc _ _).1
  rw [← hw1]
  clear hw1
  have kB1 : Keep (· = B) w w1 := k1.mono fun _ _ h => h.elim
  refine (skipTo_c (fun x kx => HT.out x (kB1.trans kx (fun _ _ h => h) (fun _ _ h => h))) (H0.out.1.keep k1) H0.out.2 hs).mono ?_
  rintro e w2 ⟨rfl, hl2, k2⟩
  have hb2 := k2.heap hb1 (show ¬ w.heap.size = B by omega)
  have H2 := Lib.hid (And.intro hl2 (And.intro (kB1.trans k2 (M'' := (· = B)) (fun _ _ h => h) (fun _ _ h => h)) hb2))
  clear hl2 k2 hb1 hb2 kB1 k1
  go_wp2_with fail
  refine (position_c H2.out.1).mono ?_
  rintro e w3 ⟨⟨l, c, f, rfl⟩, k3⟩
  have hl3 := H2.out.1.keep k3
  have hb3 := k3.heap H2.out.2.2 (fun h => h)
  have hs1 := (Array.getElem?_eq_some_iff.1 hb3).1
  obtain ⟨w4, hw4⟩ : ∃ x, x = w3.alloc (.cells #[.string f, .int .i64 l, .int .i64 c, .int .i64 m] 142) := ⟨_, rfl⟩
  have k4 : Keep NoB w3 w4 := hw4 ▸ Keep.alloc _ _ _
  have hbP : w4.heap[w3.heap.size]? = some (.cells #[.string f, .int .i64 l, .int .i64 c, .int .i64 m] 142 (0, 0)) := hw4 ▸ (MapKept.heap_alloc _ _).1
  have hbT := k4.heap hb3 (fun h => h)
  have hl4 := hl3.keep k4
  obtain ⟨lL, lc, lf, hbk⟩ := hl4.blk
  obtain ⟨e0, e1, _⟩ := lexCells hbk
  have H4 := Lib.hid (And.intro hl4 (And.intro hbP (And.intro hbT (And.intro (H2.out.2.1.trans (k3.then k4) (M'' := (· = B)) (fun _ _ h => h) (fun _ _ h => h.elim)) hs1))))
  have h1 : ¬ (s.size : Int) ≤ (m : Int) := by omega
  clear hl3 hb3 hbP hbT k3 k4 hbk hl4 hs1
  go_upto_region 5 with fail
  rw [← hw4]
  clear hw4
  go_quiet (fail)
  obtain ⟨w5, hw5⟩ : ∃ x, x = w4.drewN nq := ⟨_, rfl⟩
  have k5 : Keep NoB w4 w5 := hw5 ▸ Keep.drewN _ _ _
  rw [← hw5]
  have H5 := Lib.hid (And.intro (H4.out.1.keep k5) (And.intro (k5.heap H4.out.2.1 (fun h => h)) (And.intro (k5.heap H4.out.2.2.1 (fun h => h)) (H4.out.2.2.2.1.then k5))))
  clear hw5 k5 e0 e1
  go_wp2_with fail
  have hP := peek_c (HT.out _ H5.out.2.2.2) H5.out.1 hms hs
  have hA8 := rune_ascii (s := s) (k := m) (by rw [hc8]; decide)
  rw [hA8.1, hc8] at hP
  have HP := Lib.hid hP
  have HA8 := Lib.hid hA8
  clear hP hA8
  refine HP.out.mono ?_
  rintro e w6 ⟨rfl, k6⟩
  have H6 := Lib.hid (And.intro (H5.out.1.keep k6) (And.intro (k6.heap H5.out.2.1 (fun h => h)) (And.intro (k6.heap H5.out.2.2.1 (fun h => h)) (H5.out.2.2.2.then k6))))
  clear k6
  go_wp2_with fail
  refine (isStart_c 59 _).mono ?_
  rintro e w7 ⟨rfl, hw7⟩
  obtain rfl : w6 = w7 := hw7.symm
  clear hw7
  rw [show isStart 59 = false from rfl]
  go_wp2_with fail
  have hA := advance_c (HT.out _ H6.out.2.2.2) H6.out.1 hms hs
  rw [HA8.out.1, HA8.out.2, hc8] at hA
  have HA := Lib.hid hA
  clear hA
  refine HA.out.mono ?_
  rintro e w8 ⟨rfl, hl8, k8⟩
  have hs1 := H4.out.2.2.2.2
  have hbT := k8.heap H6.out.2.2.1 (show ¬ w.heap.size = B by omega)
  have hbP := k8.heap H6.out.2.1 (show ¬ w3.heap.size = B by omega)
  have p0 : w8.cell? ⟨w3.heap.size, 0, none⟩ = some (.string f) ∧ w8.cell? ⟨w3.heap.size, 1, none⟩ = some (.int .i64 l) ∧ w8.cell? ⟨w3.heap.size, 2, none⟩ = some (.int .i64 c) ∧ w8.cell? ⟨w3.heap.size, 3, none⟩ = some (.int .i64 m) := by
    simp [World.cell?, hbP]
  obtain ⟨p0, p1, p2, p3⟩ := p0
  obtain ⟨g0, g1, g2, g3, g4, g5, z0, z1, z2, z3, z4, z5⟩ := tokCells hbT
  have H9 := Lib.hid (And.intro hl8 (And.intro (H6.out.2.2.2.trans k8 (M'' := (· = B)) (fun _ _ h => h) (fun _ _ h => h)) hbT))
  clear hbT hbP k8 hl8 hs1
  go_wp2_with fail
  obtain ⟨wz, hwz⟩ : ∃ wz, wz = (World.setCell (World.setCell (World.setCell (World.setCell (World.setCell (World.setCell w8 ⟨w.heap.size, 0, none⟩ (.int .i64 13)) ⟨w.heap.size, 1, none⟩ (.string f)) ⟨w.heap.size, 2, none⟩ (.int .i64 l)) ⟨w.heap.size, 3, none⟩ (.int .i64 c)) ⟨w.heap.size, 4, none⟩ (.int .i64 m)) ⟨w.heap.size, 5, none⟩ (.string ⟨#[59]⟩)) := ⟨_, rfl⟩
  obtain ⟨hz, kz⟩ := tokStored (k := 13) (N := w.heap.size) H9.out.2.2 hwz
  rw [← hwz]
  clear hwz
  obtain ⟨q0, q1, q2, q3, q4, q5, _⟩ := tokCells hz
  refine bodyPost_ret (v := .tuple #[.agg #[.int .i64 13, .string f, .int .i64 l, .int .i64 c, .int .i64 m, .string ⟨#[59]⟩], .nilIface]) ?_ rfl ?_
  · simp at q0
    simp [results, Tryz.results63, go_sem, q0, q1, q2, q3, q4, q5, Result.andThen]
  · exact ⟨⟨l, c, m, f, rfl⟩, H9.out.1.apart H9.out.2.2 kz (by omega), H9.out.2.1.trans kz (fun _ _ h => h) (fun i hi h => by omega)⟩
set_option maxRecDepth 100000 in
set_option maxHeartbeats 8000000 in
theorem nextSym63_c {w : World} {B : Nat} {o : Option Addr} {bb cap : Nat} {s : ByteArray} {p m : Nat} (hT : ∀ x, Keep (· = B) w x → Tabs x) (hB : B < w.heap.size) (h : LexIs w B o bb cap s p) (hsk : Sk s p m) (hms : m < s.size) (hc8 : at8 s m = 63) (hs : s.size ≤ 3000) :
    Calls Tryz.prog 63 #[.pointer (some ⟨B, 0, none⟩)] w (TokOut B o bb cap s w 16 ⟨#[63]⟩ (m + 1)) := by
  have HT := Lib.hid hT
  have H0 := Lib.hid (And.intro h hsk)
  clear hT h hsk
  go_enter Tryz.func63, Tryz.ntmps63
  go_wp2_with fail
  obtain ⟨w1, hw1⟩ : ∃ w1, w1 = w.alloc (.cells #[.int .i64 0, .string ⟨#[]⟩, .int .i64 0, .int .i64 0, .int .i64 0, .string ⟨#[]⟩] 144) := ⟨_, rfl⟩
  have k1 : Keep NoB w w1 := hw1 ▸ Keep.alloc _ _ _
  have hb1 : w1.heap[w.heap.size]? = some (tokO 0 ⟨#[]⟩ 0 0 0 ⟨#[]⟩) := hw1 ▸ (MapKept.heap_alloc _ _).1
  rw [← hw1]
  clear hw1
  have kB1 : Keep (· = B) w w1 := k1.mono fun _ _ h => h.elim
  refine (skipTo_c (fun x kx => HT.out x (kB1.trans kx (fun _ _ h => h) (fun _ _ h => h))) (H0.out.1.keep k1) H0.out.2 hs).mono ?_
  rintro e w2 ⟨rfl, hl2, k2⟩
  have hb2 := k2.heap hb1 (show ¬ w.heap.size = B by omega)
  have H2 := Lib.hid (And.intro hl2 (And.intro (kB1.trans k2 (M'' := (· = B)) (fun _ _ h => h) (fun _ _ h => h)) hb2))
  clear hl2 k2 hb1 hb2 kB1 k1
  go_wp2_with fail
  refine (position_c H2.out.1).mono ?_
  rintro e w3 ⟨⟨l, c, f, rfl⟩, k3⟩
  have hl3 := H2.out.1.keep k3
  have hb3 := k3.heap H2.out.2.2 (fun h => h)
  have hs1 := (Array.getElem?_eq_some_iff.1 hb3).1
  obtain ⟨w4, hw4⟩ : ∃ x, x = w3.alloc (.cells #[.string f, .int .i64 l, .int .i64 c, .int .i64 m] 142) := ⟨_, rfl⟩
  have k4 : Keep NoB w3 w4 := hw4 ▸ Keep.alloc _ _ _
  have hbP : w4.heap[w3.heap.size]? = some (.cells #[.string f, .int .i64 l, .int .i64 c, .int .i64 m] 142 (0, 0)) := hw4 ▸ (MapKept.heap_alloc _ _).1
  have hbT := k4.heap hb3 (fun h => h)
  have hl4 := hl3.keep k4
  obtain ⟨lL, lc, lf, hbk⟩ := hl4.blk
  obtain ⟨e0, e1, _⟩ := lexCells hbk
  have H4 := Lib.hid (And.intro hl4 (And.intro hbP (And.intro hbT (And.intro (H2.out.2.1.trans (k3.then k4) (M'' := (· = B)) (fun _ _ h => h) (fun _ _ h => h.elim)) hs1))))
  have h1 : ¬ (s.size : Int) ≤ (m : Int) := by omega
  clear hl3 hb3 hbP hbT k3 k4 hbk hl4 hs1
  go_upto_region 5 with fail
  rw [← hw4]
  clear hw4
  go_quiet (fail)
  obtain ⟨w5, hw5⟩ : ∃ x, x = w4.drewN nq := ⟨_, rfl⟩
  have k5 : Keep NoB w4 w5 := hw5 ▸ Keep.drewN _ _ _
  rw [← hw5]
  have H5 := Lib.hid (And.intro (H4.out.1.keep k5) (And.intro (k5.heap H4.out.2.1 (fun h => h)) (And.intro (k5.heap H4.out.2.2.1 (fun h => h)) (H4.out.2.2.2.1.then k5))))
  clear hw5 k5 e0 e1
  go_wp2_with fail
  have hP := peek_c (HT.out _ H5.out.2.2.2) H5.out.1 hms hs
  have hA8 := rune_ascii (s := s) (k := m) (by rw [hc8]; decide)
  rw [hA8.1, hc8] at hP
  have HP := Lib.hid hP
  have HA8 := Lib.hid hA8
  clear hP hA8
  refine HP.out.mono ?_
  rintro e w6 ⟨rfl, k6⟩
  have H6 := Lib.hid (And.intro (H5.out.1.keep k6) (And.intro (k6.heap H5.out.2.1 (fun h => h)) (And.intro (k6.heap H5.out.2.2.1 (fun h => h)) (H5.out.2.2.2.then k6))))
  clear k6
  go_wp2_with fail
  refine (isStart_c 63 _).mono ?_
  rintro e w7 ⟨rfl, hw7⟩
  obtain rfl : w6 = w7 := hw7.symm
  clear hw7
  rw [show isStart 63 = false from rfl]
  go_wp2_with fail
  have hA := advance_c (HT.out _ H6.out.2.2.2) H6.out.1 hms hs
  rw [HA8.out.1, HA8.out.2, hc8] at hA
  have HA := Lib.hid hA
  clear hA
  refine HA.out.mono ?_
  rintro e w8 ⟨rfl, hl8, k8⟩
  have hs1 := H4.out.2.2.2.2
  have hbT := k8.heap H6.out.2.2.1 (show ¬ w.heap.size = B by omega)
  have hbP := k8.heap H6.out.2.1 (show ¬ w3.heap.size = B by omega)
  have p0 : w8.cell? ⟨w3.heap.size, 0, none⟩ = some (.string f) ∧ w8.cell? ⟨w3.heap.size, 1, none⟩ = some (.int .i64 l) ∧ w8.cell? ⟨w3.heap.size, 2, none⟩ = some (.int .i64 c) ∧ w8.cell? ⟨w3.heap.size, 3, none⟩ = some (.int .i64 m) := by
    simp [World.cell?, hbP]
  obtain ⟨p0, p1, p2, p3⟩ := p0
  obtain ⟨g0, g1, g2, g3, g4, g5, z0, z1, z2, z3, z4, z5⟩ := tokCells hbT
  have H9 := Lib.hid (And.intro hl8 (And.intro (H6.out.2.2.2.trans k8 (M'' := (· = B)) (fun _ _ h => h) (fun _ _ h => h)) hbT))
  clear hbT hbP k8 hl8 hs1
  go_wp2_with fail
  obtain ⟨wz, hwz⟩ : ∃ wz, wz = (World.setCell (World.setCell (World.setCell (World.setCell (World.setCell (World.setCell w8 ⟨w.heap.size, 0, none⟩ (.int .i64 16)) ⟨w.heap.size, 1, none⟩ (.string f)) ⟨w.heap.size, 2, none⟩ (.int .i64 l)) ⟨w.heap.size, 3, none⟩ (.int .i64 c)) ⟨w.heap.size, 4, none⟩ (.int .i64 m)) ⟨w.heap.size, 5, none⟩ (.string ⟨#[63]⟩)) := ⟨_, rfl⟩
  obtain ⟨hz, kz⟩ := tokStored (k := 16) (N := w.heap.size) H9.out.2.2 hwz
  rw [← hwz]
  clear hwz
  obtain ⟨q0, q1, q2, q3, q4, q5, _⟩ := tokCells hz
  refine bodyPost_ret (v := .tuple #[.agg #[.int .i64 16, .string f, .int .i64 l, .int .i64 c, .int .i64 m, .string ⟨#[63]⟩], .nilIface]) ?_ rfl ?_
  · simp at q0
    simp [results, Tryz.results63, go_sem, q0, q1, q2, q3, q4, q5, Result.andThen]
  · exact ⟨⟨l, c, m, f, rfl⟩, H9.out.1.apart H9.out.2.2 kz (by omega), H9.out.2.1.trans kz (fun _ _ h => h) (fun i hi h => by omega)⟩
set_option maxRecDepth 100000 in
set_option maxHeartbeats 8000000 in
theorem nextSym61_c {w : World} {B : Nat} {o : Option Addr} {bb cap : Nat} {s : ByteArray} {p m : Nat} (hT : ∀ x, Keep (· = B) w x → Tabs x) (hB : B < w.heap.size) (h : LexIs w B o bb cap s p) (hsk : Sk s p m) (hms : m < s.size) (hc8 : at8 s m = 61) (hs : s.size ≤ 3000) :
    Calls Tryz.prog 63 #[.pointer (some ⟨B, 0, none⟩)] w (TokOut B o bb cap s w 17 ⟨#[61]⟩ (m + 1)) := by
  have HT := Lib.hid hT
  have H0 := Lib.hid (And.intro h hsk)
  clear hT h hsk
  go_enter Tryz.func63, Tryz.ntmps63
  go_wp2_with fail
  obtain ⟨w1, hw1⟩ : ∃ w1, w1 = w.alloc (.cells #[.int .i64 0, .string ⟨#[]⟩, .int .i64 0, .int .i64 0, .int .i64 0, .string ⟨#[]⟩] 144) := ⟨_, rfl⟩
  have k1 : Keep NoB w w1 := hw1 ▸ Keep.alloc _ _ _
  have hb1 : w1.heap[w.heap.size]? = some (tokO 0 ⟨#[]⟩ 0 0 0 ⟨#[]⟩) := hw1 ▸ (MapKept.heap_alloc _ _).1
  rw [← hw1]
  clear hw1
  have kB1 : Keep (· = B) w w1 := k1.mono fun _ _ h => h.elim
  refine (skipTo_c (fun x kx => HT.out x (kB1.trans kx (fun _ _ h => h) (fun _ _ h => h))) (H0.out.1.keep k1) H0.out.2 hs).mono ?_
  rintro e w2 ⟨rfl, hl2, k2⟩
  have hb2 := k2.heap hb1 (show ¬ w.heap.size = B by omega)
  have H2 := Lib.hid (And.intro hl2 (And.intro (kB1.trans k2 (M'' := (· = B)) (fun _ _ h => h) (fun _ _ h => h)) hb2))
  clear hl2 k2 hb1 hb2 kB1 k1
  go_wp2_with fail
  refine (position_c H2.out.1).mono ?_
  rintro e w3 ⟨⟨l, c, f, rfl⟩, k3⟩
  have hl3 := H2.out.1.keep k3
  have hb3 := k3.heap H2.out.2.2 (fun h => h)
  have hs1 := (Array.getElem?_eq_some_iff.1 hb3).1
  obtain ⟨w4, hw4⟩ : ∃ x, x = w3.alloc (.cells #[.string f, .int .i64 l, .int .i64 c, .int .i64 m] 142) := ⟨_, rfl⟩
  have k4 : Keep NoB w3 w4 := hw4 ▸ Keep.alloc _ _ _
  have hbP : w4.heap[w3.heap.size]? = some (.cells #[.string f, .int .i64 l, .int .i64 c, .int .i64 m] 142 (0, 0)) := hw4 ▸ (MapKept.heap_alloc _ _).1
  have hbT := k4.heap hb3 (fun h => h)
  have hl4 := hl3.keep k4
  obtain ⟨lL, lc, lf, hbk⟩ := hl4.blk
  obtain ⟨e0, e1, _⟩ := lexCells hbk
  have H4 := Lib.hid (And.intro hl4 (And.intro hbP (And.intro hbT (And.intro (H2.out.2.1.trans (k3.then k4) (M'' := (· = B)) (fun _ _ h => h) (fun _ _ h => h.elim)) hs1))))
  have h1 : ¬ (s.size : Int) ≤ (m : Int) := by omega
  clear hl3 hb3 hbP hbT k3 k4 hbk hl4 hs1
  go_upto_region 5 with fail
  rw [← hw4]
  clear hw4
  go_quiet (fail)
  obtain ⟨w5, hw5⟩ : ∃ x, x = w4.drewN nq := ⟨_, rfl⟩
  have k5 : Keep NoB w4 w5 := hw5 ▸ Keep.drewN _ _ _
  rw [← hw5]
  have H5 := Lib.hid (And.intro (H4.out.1.keep k5) (And.intro (k5.heap H4.out.2.1 (fun h => h)) (And.intro (k5.heap H4.out.2.2.1 (fun h => h)) (H4.out.2.2.2.1.then k5))))
  clear hw5 k5 e0 e1
  go_wp2_with fail
  have hP := peek_c (HT.out _ H5.out.2.2.2) H5.out.1 hms hs
  have hA8 := rune_ascii (s := s) (k := m) (by rw [hc8]; decide)
  rw [hA8.1, hc8] at hP
  have HP := Lib.hid hP
  have HA8 := Lib.hid hA8
  clear hP hA8
  refine HP.out.mono ?_
  rintro e w6 ⟨rfl, k6⟩
  have H6 := Lib.hid (And.intro (H5.out.1.keep k6) (And.intro (k6.heap H5.out.2.1 (fun h => h)) (And.intro (k6.heap H5.out.2.2.1 (fun h => h)) (H5.out.2.2.2.then k6))))
  clear k6
  go_wp2_with fail
  refine (isStart_c 61 _).mono ?_
  rintro e w7 ⟨rfl, hw7⟩
  obtain rfl : w6 = w7 := hw7.symm
  clear hw7
  rw [show isStart 61 = false from rfl]
  go_wp2_with fail
  have hA := advance_c (HT.out _ H6.out.2.2.2) H6.out.1 hms hs
  rw [HA8.out.1, HA8.out.2, hc8] at hA
  have HA := Lib.hid hA
  clear hA
  refine HA.out.mono ?_
  rintro e w8 ⟨rfl, hl8, k8⟩
  have hs1 := H4.out.2.2.2.2
  have hbT := k8.heap H6.out.2.2.1 (show ¬ w.heap.size = B by omega)
  have hbP := k8.heap H6.out.2.1 (show ¬ w3.heap.size = B by omega)
  have p0 : w8.cell? ⟨w3.heap.size, 0, none⟩ = some (.string f) ∧ w8.cell? ⟨w3.heap.size, 1, none⟩ = some (.int .i64 l) ∧ w8.cell? ⟨w3.heap.size, 2, none⟩ = some (.int .i64 c) ∧ w8.cell? ⟨w3.heap.size, 3, none⟩ = some (.int .i64 m) := by
    simp [World.cell?, hbP]
  obtain ⟨p0, p1, p2, p3⟩ := p0
  obtain ⟨g0, g1, g2, g3, g4, g5, z0, z1, z2, z3, z4, z5⟩ := tokCells hbT
  have H9 := Lib.hid (And.intro hl8 (And.intro (H6.out.2.2.2.trans k8 (M'' := (· = B)) (fun _ _ h => h) (fun _ _ h => h)) hbT))
  clear hbT hbP k8 hl8 hs1
  go_wp2_with fail
  obtain ⟨wz, hwz⟩ : ∃ wz, wz = (World.setCell (World.setCell (World.setCell (World.setCell (World.setCell (World.setCell w8 ⟨w.heap.size, 0, none⟩ (.int .i64 17)) ⟨w.heap.size, 1, none⟩ (.string f)) ⟨w.heap.size, 2, none⟩ (.int .i64 l)) ⟨w.heap.size, 3, none⟩ (.int .i64 c)) ⟨w.heap.size, 4, none⟩ (.int .i64 m)) ⟨w.heap.size, 5, none⟩ (.string ⟨#[61]⟩)) := ⟨_, rfl⟩
  obtain ⟨hz, kz⟩ := tokStored (k := 17) (N := w.heap.size) H9.out.2.2 hwz
  rw [← hwz]
  clear hwz
  obtain ⟨q0, q1, q2, q3, q4, q5, _⟩ := tokCells hz
  refine bodyPost_ret (v := .tuple #[.agg #[.int .i64 17, .string f, .int .i64 l, .int .i64 c, .int .i64 m, .string ⟨#[61]⟩], .nilIface]) ?_ rfl ?_
  · simp at q0
    simp [results, Tryz.results63, go_sem, q0, q1, q2, q3, q4, q5, Result.andThen]
  · exact ⟨⟨l, c, m, f, rfl⟩, H9.out.1.apart H9.out.2.2 kz (by omega), H9.out.2.1.trans kz (fun _ _ h => h) (fun i hi h => by omega)⟩
set_option maxRecDepth 100000 in
set_option maxHeartbeats 8000000 in
theorem nextDcol_c {w : World} {B : Nat} {o : Option Addr} {bb cap : Nat} {s : ByteArray} {p m : Nat} (hT : ∀ x, Keep (· = B) w x → Tabs x) (hB : B < w.heap.size) (h : LexIs w B o bb cap s p) (hsk : Sk s p m) (hms : m < s.size) (hc8 : at8 s m = 58) (hms2 : m + 1 < s.size) (hc9 : at8 s (m + 1) = 58) (hs : s.size ≤ 3000) :
    Calls Tryz.prog 63 #[.pointer (some ⟨B, 0, none⟩)] w (TokOut B o bb cap s w 15 ⟨#[58, 58]⟩ (m + 1 + 1)) := by
  have HT := Lib.hid hT
  have H0 := Lib.hid (And.intro h hsk)
  clear hT h hsk
  go_enter Tryz.func63, Tryz.ntmps63
  go_wp2_with fail
  obtain ⟨w1, hw1⟩ : ∃ w1, w1 = w.alloc (.cells #[.int .i64 0, .string ⟨#[]⟩, .int .i64 0, .int .i64 0, .int .i64 0, .string ⟨#[]⟩] 144) := ⟨_, rfl⟩
  have k1 : Keep NoB w w1 := hw1 ▸ Keep.alloc _ _ _
  have hb1 : w1.heap[w.heap.size]? = some (tokO 0 ⟨#[]⟩ 0 0 0 ⟨#[]⟩) := hw1 ▸ (MapKept.heap_alloc _ _).1
  rw [← hw1]
  clear hw1
  have kB1 : Keep (· = B) w w1 := k1.mono fun _ _ h => h.elim
  refine (skipTo_c (fun x kx => HT.out x (kB1.trans kx (fun _ _ h => h) (fun _ _ h => h))) (H0.out.1.keep k1) H0.out.2 hs).mono ?_
  rintro e w2 ⟨rfl, hl2, k2⟩
  have hb2 := k2.heap hb1 (show ¬ w.heap.size = B by omega)
  have H2 := Lib.hid (And.intro hl2 (And.intro (kB1.trans k2 (M'' := (· = B)) (fun _ _ h => h) (fun _ _ h => h)) hb2))
  clear hl2 k2 hb1 hb2 kB1 k1
  go_wp2_with fail
  refine (position_c H2.out.1).mono ?_
  rintro e w3 ⟨⟨l, c, f, rfl⟩, k3⟩
  have hl3 := H2.out.1.keep k3
  have hb3 := k3.heap H2.out.2.2 (fun h => h)
  have hs1 := (Array.getElem?_eq_some_iff.1 hb3).1
  obtain ⟨w4, hw4⟩ : ∃ x, x = w3.alloc (.cells #[.string f, .int .i64 l, .int .i64 c, .int .i64 m] 142) := ⟨_, rfl⟩
  have k4 : Keep NoB w3 w4 := hw4 ▸ Keep.alloc _ _ _
  have hbP : w4.heap[w3.heap.size]? = some (.cells #[.string f, .int .i64 l, .int .i64 c, .int .i64 m] 142 (0, 0)) := hw4 ▸ (MapKept.heap_alloc _ _).1
  have hbT := k4.heap hb3 (fun h => h)
  have hl4 := hl3.keep k4
  obtain ⟨lL, lc, lf, hbk⟩ := hl4.blk
  obtain ⟨e0, e1, _⟩ := lexCells hbk
  have H4 := Lib.hid (And.intro hl4 (And.intro hbP (And.intro hbT (And.intro (H2.out.2.1.trans (k3.then k4) (M'' := (· = B)) (fun _ _ h => h) (fun _ _ h => h.elim)) hs1))))
  have h1 : ¬ (s.size : Int) ≤ (m : Int) := by omega
  clear hl3 hb3 hbP hbT k3 k4 hbk hl4 hs1
  go_upto_region 5 with fail
  rw [← hw4]
  clear hw4
  go_quiet (fail)
  obtain ⟨w5, hw5⟩ : ∃ x, x = w4.drewN nq := ⟨_, rfl⟩
  have k5 : Keep NoB w4 w5 := hw5 ▸ Keep.drewN _ _ _
  rw [← hw5]
  have H5 := Lib.hid (And.intro (H4.out.1.keep k5) (And.intro (k5.heap H4.out.2.1 (fun h => h)) (And.intro (k5.heap H4.out.2.2.1 (fun h => h)) (H4.out.2.2.2.1.then k5))))
  clear hw5 k5 e0 e1
  go_wp2_with fail
  have hP := peek_c (HT.out _ H5.out.2.2.2) H5.out.1 hms hs
  have hA8 := rune_ascii (s := s) (k := m) (by rw [hc8]; decide)
  rw [hA8.1, hc8] at hP
  have HP := Lib.hid hP
  have HA8 := Lib.hid hA8
  clear hP hA8
  refine HP.out.mono ?_
  rintro e w6 ⟨rfl, k6⟩
  have H6 := Lib.hid (And.intro (H5.out.1.keep k6) (And.intro (k6.heap H5.out.2.1 (fun h => h)) (And.intro (k6.heap H5.out.2.2.1 (fun h => h)) (H5.out.2.2.2.then k6))))
  clear k6
  go_wp2_with fail
  refine (isStart_c 58 _).mono ?_
  rintro e w7 ⟨rfl, hw7⟩
  obtain rfl : w6 = w7 := hw7.symm
  clear hw7
  rw [show isStart 58 = false from rfl]
  go_wp2_with fail
  have hA := advance_c (HT.out _ H6.out.2.2.2) H6.out.1 hms hs
  rw [HA8.out.1, HA8.out.2, hc8] at hA
  have HA := Lib.hid hA
  clear hA
  refine HA.out.mono ?_
  rintro e w8 ⟨rfl, hl8, k8⟩
  have hs1 := H4.out.2.2.2.2
  have H8 := Lib.hid (And.intro hl8 (And.intro (H6.out.2.2.2.trans k8 (M'' := (· = B)) (fun _ _ h => h) (fun _ _ h => h)) (And.intro (k8.heap H6.out.2.1 (show ¬ w3.heap.size = B by omega)) (k8.heap H6.out.2.2.1 (show ¬ w.heap.size = B by omega)))))
  clear hl8 k8
  have hP2 := peek_c (HT.out _ H8.out.2.1) H8.out.1 hms2 hs
  have hA9 := rune_ascii (s := s) (k := m + 1) (by rw [hc9]; decide)
  rw [hA9.1, hc9] at hP2
  have HP2 := Lib.hid hP2
  have HA9 := Lib.hid hA9
  clear hP2 hA9
  go_wp2_with fail
  refine HP2.out.mono ?_
  rintro e w9 ⟨rfl, k9⟩
  have H9' := Lib.hid (And.intro (H8.out.1.keep k9) (And.intro (H8.out.2.1.then k9) (And.intro (k9.heap H8.out.2.2.1 (fun h => h)) (k9.heap H8.out.2.2.2 (fun h => h)))))
  clear k9
  have hA2 := advance_c (HT.out _ H9'.out.2.1) H9'.out.1 hms2 hs
  rw [HA9.out.2] at hA2
  have HA2 := Lib.hid hA2
  clear hA2
  go_wp2_with fail
  refine HA2.out.mono ?_
  rintro e w10 ⟨rfl, hl10, k10⟩
  have hbT := k10.heap H9'.out.2.2.2 (show ¬ w.heap.size = B by omega)
  have hbP := k10.heap H9'.out.2.2.1 (show ¬ w3.heap.size = B by omega)
  have p0 : w10.cell? ⟨w3.heap.size, 0, none⟩ = some (.string f) ∧ w10.cell? ⟨w3.heap.size, 1, none⟩ = some (.int .i64 l) ∧ w10.cell? ⟨w3.heap.size, 2, none⟩ = some (.int .i64 c) ∧ w10.cell? ⟨w3.heap.size, 3, none⟩ = some (.int .i64 m) := by
    simp [World.cell?, hbP]
  obtain ⟨p0, p1, p2, p3⟩ := p0
  obtain ⟨g0, g1, g2, g3, g4, g5, z0, z1, z2, z3, z4, z5⟩ := tokCells hbT
  have H9 := Lib.hid (And.intro hl10 (And.intro (H9'.out.2.1.trans k10 (M'' := (· = B)) (fun _ _ h => h) (fun _ _ h => h)) hbT))
  clear hbT hbP k10 hl10 hs1
  go_wp2_with fail
  obtain ⟨wz, hwz⟩ : ∃ wz, wz = (World.setCell (World.setCell (World.setCell (World.setCell (World.setCell (World.setCell w10 ⟨w.heap.size, 0, none⟩ (.int .i64 15)) ⟨w.heap.size, 1, none⟩ (.string f)) ⟨w.heap.size, 2, none⟩ (.int .i64 l)) ⟨w.heap.size, 3, none⟩ (.int .i64 c)) ⟨w.heap.size, 4, none⟩ (.int .i64 m)) ⟨w.heap.size, 5, none⟩ (.string ⟨#[58, 58]⟩)) := ⟨_, rfl⟩
  obtain ⟨hz, kz⟩ := tokStored (k := 15) (N := w.heap.size) H9.out.2.2 hwz
  rw [← hwz]
  clear hwz
  obtain ⟨q0, q1, q2, q3, q4, q5, _⟩ := tokCells hz
  refine bodyPost_ret (v := .tuple #[.agg #[.int .i64 15, .string f, .int .i64 l, .int .i64 c, .int .i64 m, .string ⟨#[58, 58]⟩], .nilIface]) ?_ rfl ?_
  · simp at q0
    simp [results, Tryz.results63, go_sem, q0, q1, q2, q3, q4, q5, Result.andThen]
  · exact ⟨⟨l, c, m, f, rfl⟩, H9.out.1.apart H9.out.2.2 kz (by omega), H9.out.2.1.trans kz (fun _ _ h => h) (fun i hi h => by omega)⟩
end Go.Proofs.YtjclpmgfcaadmaaGreatDoor
