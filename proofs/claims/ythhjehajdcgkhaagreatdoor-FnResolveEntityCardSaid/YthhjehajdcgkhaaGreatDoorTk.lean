/- The walk of typeKey on types without records. -/
import Derived.Test.YthhjehajdcgkhaaGreatDoorKey
namespace Go.Proofs.YthhjehajdcgkhaaGreatDoor
open Go.RowKit

/-- a type without records -/
inductive Flat : ATy → Prop
  | str : Flat .str
  | long : Flat .long
  | bool : Flat .bool
  | ext (s : Str) : Flat (.ext s)
  | set {t : ATy} : Flat t → Flat (.set t)
  | ent (s : Str) : Flat (.ent s)
  | ref (s : Str) : Flat (.ref s)
def tKey : ATy → Str
  | .str => digS 1 1
  | .long => digS 2 1
  | .bool => digS 3 1
  | .ext s => digS 4 1 ++ frm s
  | .set t => digS 5 1 ++ tKey t
  | .record _ => ⟨#[]⟩
  | .ent s => digS 7 1 ++ frm s
  | .ref s => digS 8 1 ++ frm s
theorem dig1 (k : Nat) (h : k < 10) : (digS k 1).size ≤ 7 := digS_short (by omega)

set_option maxRecDepth 100000 in
set_option maxHeartbeats 4000000 in
theorem typeKey_0 (s : Str) (e a : Sl) (w : World) : Calls Tryz.prog 50 #[tyV 0 s e a] w fun e w' => e = .returned (.string (digS 0 1)) ∧ Keep NoB w w' := by
  obtain ⟨eo, en, ec⟩ := e
  obtain ⟨ao, an, ac⟩ := a
  simp only [tyV, slV]
  have hd := fun x => digits_c 0 1 (by omega) (by omega) x
  go_enter Tryz.func50, Tryz.ntmps50
  go_wp2_with fail
  refine (hd _).mono ?_
  rintro e w1 ⟨rfl, k1⟩
  have K1 := Lib.hid ((Keep.alloc _ _ NoB).then k1)
  have hb := k1.heap (MapKept.heap_alloc w _).1 (NoB.not _)
  have q0 : w1.cell? ⟨w.heap.size, 0, none⟩ = some (.int .i64 0) := by rw [cell_cells hb]; rfl
  clear k1 hb hd
  go_wp2_with fail
  go_ret
  exact ⟨rfl, K1.out⟩
set_option maxRecDepth 100000 in
set_option maxHeartbeats 4000000 in
theorem typeKey_1 (s : Str) (e a : Sl) (w : World) : Calls Tryz.prog 50 #[tyV 1 s e a] w fun e w' => e = .returned (.string (digS 1 1)) ∧ Keep NoB w w' := by
  obtain ⟨eo, en, ec⟩ := e
  obtain ⟨ao, an, ac⟩ := a
  simp only [tyV, slV]
  have hd := fun x => digits_c 1 1 (by omega) (by omega) x
  go_enter Tryz.func50, Tryz.ntmps50
  go_wp2_with fail
  refine (hd _).mono ?_
  rintro e w1 ⟨rfl, k1⟩
  have K1 := Lib.hid ((Keep.alloc _ _ NoB).then k1)
  have hb := k1.heap (MapKept.heap_alloc w _).1 (NoB.not _)
  have q0 : w1.cell? ⟨w.heap.size, 0, none⟩ = some (.int .i64 1) := by rw [cell_cells hb]; rfl
  clear k1 hb hd
  go_wp2_with fail
  go_ret
  exact ⟨rfl, K1.out⟩
set_option maxRecDepth 100000 in
set_option maxHeartbeats 4000000 in
theorem typeKey_2 (s : Str) (e a : Sl) (w : World) : Calls Tryz.prog 50 #[tyV 2 s e a] w fun e w' => e = .returned (.string (digS 2 1)) ∧ Keep NoB w w' := by
  obtain ⟨eo, en, ec⟩ := e
  obtain ⟨ao, an, ac⟩ := a
  simp only [tyV, slV]
  have hd := fun x => digits_c 2 1 (by omega) (by omega) x
  go_enter Tryz.func50, Tryz.ntmps50
  go_wp2_with fail
  refine (hd _).mono ?_
  rintro e w1 ⟨rfl, k1⟩
  have K1 := Lib.hid ((Keep.alloc _ _ NoB).then k1)
  have hb := k1.heap (MapKept.heap_alloc w _).1 (NoB.not _)
  have q0 : w1.cell? ⟨w.heap.size, 0, none⟩ = some (.int .i64 2) := by rw [cell_cells hb]; rfl
  clear k1 hb hd
  go_wp2_with fail
  go_ret
  exact ⟨rfl, K1.out⟩
set_option maxRecDepth 100000 in
set_option maxHeartbeats 4000000 in
theorem typeKey_3 (s : Str) (e a : Sl) (w : World) : Calls Tryz.prog 50 #[tyV 3 s e a] w fun e w' => e = .returned (.string (digS 3 1)) ∧ Keep NoB w w' := by
  obtain ⟨eo, en, ec⟩ := e
  obtain ⟨ao, an, ac⟩ := a
  simp only [tyV, slV]
  have hd := fun x => digits_c 3 1 (by omega) (by omega) x
  go_enter Tryz.func50, Tryz.ntmps50
  go_wp2_with fail
  refine (hd _).mono ?_
  rintro e w1 ⟨rfl, k1⟩
  have K1 := Lib.hid ((Keep.alloc _ _ NoB).then k1)
  have hb := k1.heap (MapKept.heap_alloc w _).1 (NoB.not _)
  have q0 : w1.cell? ⟨w.heap.size, 0, none⟩ = some (.int .i64 3) := by rw [cell_cells hb]; rfl
  clear k1 hb hd
  go_wp2_with fail
  go_ret
  exact ⟨rfl, K1.out⟩
set_option maxRecDepth 100000 in
set_option maxHeartbeats 4000000 in
theorem typeKey_4 (s : Str) (hs : s.size ≤ 500000) (e a : Sl) (w : World) : Calls Tryz.prog 50 #[tyV 4 s e a] w fun e w' => e = .returned (.string (digS 4 1 ++ frm s)) ∧ Keep NoB w w' := by
  obtain ⟨eo, en, ec⟩ := e
  obtain ⟨ao, an, ac⟩ := a
  simp only [tyV, slV]
  have hd := fun x => digits_c 4 1 (by omega) (by omega) x
  have hz : (digS 4 1).size ≤ 7 := dig1 _ (by omega)
  have hf := frm_size (s := s) (by omega)
  go_enter Tryz.func50, Tryz.ntmps50
  go_wp2_with fail
  refine (hd _).mono ?_
  rintro e w1 ⟨rfl, k1⟩
  have K1 := Lib.hid ((Keep.alloc _ _ NoB).then k1)
  have hb := k1.heap (MapKept.heap_alloc w _).1 (NoB.not _)
  have q0 : w1.cell? ⟨w.heap.size, 0, none⟩ = some (.int .i64 4) := by rw [cell_cells hb]; rfl
  have q1 : w1.cell? ⟨w.heap.size, 1, none⟩ = some (.string s) := by rw [cell_cells hb]; rfl
  clear k1 hb hd
  go_wp2_with fail
  refine (framed_c s (by omega) _).mono ?_
  rintro e w2 ⟨rfl, k2⟩
  have K2 := Lib.hid (K1.out.then k2)
  clear k2
  go_wp2_with fail
  go_ret
  exact ⟨rfl, K2.out⟩
set_option maxRecDepth 100000 in
set_option maxHeartbeats 4000000 in
theorem typeKey_7 (s : Str) (hs : s.size ≤ 500000) (e a : Sl) (w : World) : Calls Tryz.prog 50 #[tyV 7 s e a] w fun e w' => e = .returned (.string (digS 7 1 ++ frm s)) ∧ Keep NoB w w' := by
  obtain ⟨eo, en, ec⟩ := e
  obtain ⟨ao, an, ac⟩ := a
  simp only [tyV, slV]
  have hd := fun x => digits_c 7 1 (by omega) (by omega) x
  have hz : (digS 7 1).size ≤ 7 := dig1 _ (by omega)
  have hf := frm_size (s := s) (by omega)
  go_enter Tryz.func50, Tryz.ntmps50
  go_wp2_with fail
  refine (hd _).mono ?_
  rintro e w1 ⟨rfl, k1⟩
  have K1 := Lib.hid ((Keep.alloc _ _ NoB).then k1)
  have hb := k1.heap (MapKept.heap_alloc w _).1 (NoB.not _)
  have q0 : w1.cell? ⟨w.heap.size, 0, none⟩ = some (.int .i64 7) := by rw [cell_cells hb]; rfl
  have q1 : w1.cell? ⟨w.heap.size, 1, none⟩ = some (.string s) := by rw [cell_cells hb]; rfl
  clear k1 hb hd
  go_wp2_with fail
  refine (framed_c s (by omega) _).mono ?_
  rintro e w2 ⟨rfl, k2⟩
  have K2 := Lib.hid (K1.out.then k2)
  clear k2
  go_wp2_with fail
  go_ret
  exact ⟨rfl, K2.out⟩
set_option maxRecDepth 100000 in
set_option maxHeartbeats 4000000 in
theorem typeKey_8 (s : Str) (hs : s.size ≤ 500000) (e a : Sl) (w : World) : Calls Tryz.prog 50 #[tyV 8 s e a] w fun e w' => e = .returned (.string (digS 8 1 ++ frm s)) ∧ Keep NoB w w' := by
  obtain ⟨eo, en, ec⟩ := e
  obtain ⟨ao, an, ac⟩ := a
  simp only [tyV, slV]
  have hd := fun x => digits_c 8 1 (by omega) (by omega) x
  have hz : (digS 8 1).size ≤ 7 := dig1 _ (by omega)
  have hf := frm_size (s := s) (by omega)
  go_enter Tryz.func50, Tryz.ntmps50
  go_wp2_with fail
  refine (hd _).mono ?_
  rintro e w1 ⟨rfl, k1⟩
  have K1 := Lib.hid ((Keep.alloc _ _ NoB).then k1)
  have hb := k1.heap (MapKept.heap_alloc w _).1 (NoB.not _)
  have q0 : w1.cell? ⟨w.heap.size, 0, none⟩ = some (.int .i64 8) := by rw [cell_cells hb]; rfl
  have q1 : w1.cell? ⟨w.heap.size, 1, none⟩ = some (.string s) := by rw [cell_cells hb]; rfl
  clear k1 hb hd
  go_wp2_with fail
  refine (framed_c s (by omega) _).mono ?_
  rintro e w2 ⟨rfl, k2⟩
  have K2 := Lib.hid (K1.out.then k2)
  clear k2
  go_wp2_with fail
  go_ret
  exact ⟨rfl, K2.out⟩

set_option maxRecDepth 100000 in
set_option maxHeartbeats 4000000 in
theorem typeKey_5 (s : Str) (b off c : Nat) (a : Sl) (k' : Int) (s' : Str) (e' a' : Sl) (key : Str) (hz : key.size ≤ 500000) (w : World)
    (hc : CellsAt w b off [.int .i64 k', .string s', slV e', slV a']) (ih : ∀ x, Keep NoB w x → Calls Tryz.prog 50 #[tyV k' s' e' a'] x fun e w' => e = .returned (.string key) ∧ Keep NoB x w') :
    Calls Tryz.prog 50 #[tyV 5 s (some ⟨b, off, none⟩, 1, c) a] w fun e w' => e = .returned (.string (digS 5 1 ++ key)) ∧ Keep NoB w w' := by
  obtain ⟨eo', en', ec'⟩ := e'
  obtain ⟨ao', an', ac'⟩ := a'
  obtain ⟨ao, an, ac⟩ := a
  simp only [tyV, slV] at ih hc ⊢
  have hd := fun x => digits_c 5 1 (by omega) (by omega) x
  have hy : (digS 5 1).size ≤ 7 := dig1 _ (by omega)
  have HI := Lib.hid (And.intro ih hc)
  clear ih hc
  go_enter Tryz.func50, Tryz.ntmps50
  go_wp2_with fail
  refine (hd _).mono ?_
  rintro e w1 ⟨rfl, k1⟩
  have K1 := Lib.hid ((Keep.alloc _ _ NoB).then k1)
  have hb := k1.heap (MapKept.heap_alloc w _).1 (NoB.not _)
  have q0 : w1.cell? ⟨w.heap.size, 0, none⟩ = some (.int .i64 5) := by rw [cell_cells hb]; rfl
  have q2 : w1.cell? ⟨w.heap.size, 2, none⟩ = some (.slice (some ⟨b, off, none⟩) 1 c) := by rw [cell_cells hb]; rfl
  have hcx := HI.out.2.keep K1.out (NoB.not _)
  have r0 := hcx 0 _ rfl
  have r1 := hcx 1 _ rfl
  have r2 := hcx 2 _ rfl
  have r3 := hcx 3 _ rfl
  simp only [Nat.add_zero] at r0
  clear k1 hb hd hcx
  go_wp2_with fail
  refine (HI.out.1 _ K1.out).mono ?_
  rintro e w2 ⟨rfl, k2⟩
  have K2 := Lib.hid (K1.out.then k2)
  clear k2
  go_wp2_with fail
  go_ret
  exact ⟨rfl, K2.out⟩

theorem typeKey_c {t : ATy} (hf : Flat t) : ∀ (w0 : World) (M : Nat → Prop) (v : Value), OTyIs w0 M t v → (tKey t).size ≤ 400000 → ∀ w, Keep NoB w0 w →
    Calls Tryz.prog 50 #[v] w fun e w' => e = .returned (.string (tKey t)) ∧ Keep NoB w w' := by
  induction hf with
  | str => intro w0 M v h _ w _; cases h; exact typeKey_1 _ _ _ w
  | long => intro w0 M v h _ w _; cases h; exact typeKey_2 _ _ _ w
  | bool => intro w0 M v h _ w _; cases h; exact typeKey_3 _ _ _ w
  | ext s =>
    intro w0 M v h hz w _
    cases h
    rw [tKey, ByteArray.size_append] at hz
    have := frm_ge s
    exact typeKey_4 _ (by omega) _ _ w
  | ent s =>
    intro w0 M v h hz w _
    cases h
    rw [tKey, ByteArray.size_append] at hz
    have := frm_ge s
    exact typeKey_7 _ (by omega) _ _ w
  | ref s =>
    intro w0 M v h hz w _
    cases h
    rw [tKey, ByteArray.size_append] at hz
    have := frm_ge s
    exact typeKey_8 _ (by omega) _ _ w
  | set hf ih =>
    intro w0 M v h hz w k
    cases h with
    | set s b off c a k' s' e' a' hM hc ht =>
      rw [tKey, ByteArray.size_append] at hz
      exact typeKey_5 s b off c a k' s' e' a' _ (by omega) w (hc.keep k (NoB.not _)) fun x kx => ih w0 M _ ht (by omega) x (k.then kx)
end Go.Proofs.YthhjehajdcgkhaaGreatDoor
