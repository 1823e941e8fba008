/- FnSchemaBlank: the lexer's next token at the end of a blank text. -/
import Derived.Test.YtjclpmgfcaadmaaGreatDoorBlE
namespace Go.Proofs.YtjclpmgfcaadmaaGreatDoor
open Go.RowKit Go.Shelf

set_option maxRecDepth 100000 in
set_option maxHeartbeats 4000000 in
theorem next_c {w : World} {B : Nat} {o : Option Addr} {bb cap : Nat} {s : ByteArray} (hT : ∀ x, Keep (· = B) w x → Tabs x) (hB : B < w.heap.size) (h : LexIs w B o bb cap s 0) (hbl : Bl s 0) (hs : s.size ≤ 3000) :
    Calls Tryz.prog 63 #[.pointer (some ⟨B, 0, none⟩)] w fun e w' => (∃ (l c p : Int) (f : ByteArray), e = .returned (.tuple #[.agg #[.int .i64 0, .string f, .int .i64 l, .int .i64 c, .int .i64 p, .string ⟨#[]⟩], .nilIface])) ∧ Keep (· = B) w w' := by
  have HT := Lib.hid hT
  have H0 := Lib.hid (And.intro h hbl)
  clear hT h hbl
  go_enter Tryz.func63, Tryz.ntmps63
  go_wp2_with fail
  obtain ⟨w1, hw1⟩ : ∃ w1, w1 = w.alloc (.cells #[.int .i64 0, .string ⟨#[]⟩, .int .i64 0, .int .i64 0, .int .i64 0, .string ⟨#[]⟩] 144) := ⟨_, rfl⟩
  have k1 : Keep NoB w w1 := hw1 ▸ Keep.alloc _ _ _
  have hb1 : w1.heap[w.heap.size]? = some (.cells #[.int .i64 0, .string ⟨#[]⟩, .int .i64 0, .int .i64 0, .int .i64 0, .string ⟨#[]⟩] 144 (0, 0)) := hw1 ▸ (MapKept.heap_alloc _ _).1
  rw [← hw1]
  clear hw1
  have kB1 : Keep (· = B) w w1 := k1.mono fun _ _ h => h.elim
  refine (skip_c (fun x kx => HT.out x (kB1.trans kx (fun _ _ h => h) (fun _ _ h => h))) (H0.out.1.keep k1) H0.out.2 hs).mono ?_
  rintro e w2 ⟨rfl, hl2, k2⟩
  have hb2 := k2.heap hb1 (show ¬ w.heap.size = B by omega)
  have H2 := Lib.hid (And.intro hl2 (And.intro (kB1.trans k2 (M'' := (· = B)) (fun _ _ h => h) (fun _ _ h => h)) hb2))
  clear hl2 k2 hb1 hb2 kB1 k1
  go_wp2_with fail
  refine (position_c H2.out.1).mono ?_
  rintro e w3 ⟨⟨l, c, f, rfl⟩, k3⟩
  have hl3 := H2.out.1.keep k3
  obtain ⟨lL, lc, lf, hbk⟩ := hl3.blk
  have hb3 := k3.heap H2.out.2.2 (fun h => h)
  have hs1 := (Array.getElem?_eq_some_iff.1 hb3).1
  obtain ⟨w4, hw4⟩ : ∃ x, x = w3.alloc (.cells #[.string f, .int .i64 l, .int .i64 c, .int .i64 s.size] 142) := ⟨_, rfl⟩
  have k4 : Keep NoB w3 w4 := hw4 ▸ Keep.alloc _ _ _
  have hbP : w4.heap[w3.heap.size]? = some (.cells #[.string f, .int .i64 l, .int .i64 c, .int .i64 s.size] 142 (0, 0)) := hw4 ▸ (MapKept.heap_alloc _ _).1
  have hbT := k4.heap hb3 (fun h => h)
  obtain ⟨e0, e1, _⟩ := lexCells (k4.heap hbk (fun h => h))
  have p0 : w4.cell? ⟨w3.heap.size, 0, none⟩ = some (.string f) ∧ w4.cell? ⟨w3.heap.size, 1, none⟩ = some (.int .i64 l) ∧ w4.cell? ⟨w3.heap.size, 2, none⟩ = some (.int .i64 c) ∧ w4.cell? ⟨w3.heap.size, 3, none⟩ = some (.int .i64 s.size) := by
    simp [World.cell?, hbP]
  have g0 : w4.cell? ⟨w.heap.size, 0, none⟩ = some (.int .i64 0) ∧ w4.cell? ⟨w.heap.size, 1, none⟩ = some (.string ⟨#[]⟩) ∧ w4.cell? ⟨w.heap.size, 2, none⟩ = some (.int .i64 0) ∧ w4.cell? ⟨w.heap.size, 3, none⟩ = some (.int .i64 0) ∧ w4.cell? ⟨w.heap.size, 4, none⟩ = some (.int .i64 0) ∧ w4.cell? ⟨w.heap.size, 5, none⟩ = some (.string ⟨#[]⟩) ∧
      w4.frozen? ⟨w.heap.size, 0, none⟩ = false ∧ w4.frozen? ⟨w.heap.size, 1, none⟩ = false ∧ w4.frozen? ⟨w.heap.size, 2, none⟩ = false ∧ w4.frozen? ⟨w.heap.size, 3, none⟩ = false ∧ w4.frozen? ⟨w.heap.size, 4, none⟩ = false ∧ w4.frozen? ⟨w.heap.size, 5, none⟩ = false := by
    simp [World.cell?, World.frozen?, hbT]
  obtain ⟨p0, p1, p2, p3⟩ := p0
  obtain ⟨g0, g1, g2, g3, g4, g5, z0, z1, z2, z3, z4, z5⟩ := g0
  have H4 := Lib.hid (And.intro hbT (H2.out.2.1.trans (k3.then k4) (M'' := (· = B)) (fun _ _ h => h) (fun _ _ h => h.elim)))
  clear hl3 hb3 hbP hbT k3 k4 hbk
  go_upto_region 5 with fail
  rw [← hw4]
  clear hw4
  go_quiet (fail)
  go_wp2_with fail
  obtain ⟨wz, hwz⟩ : ∃ wz, wz = (World.setCell (World.setCell (World.setCell (World.setCell (World.setCell (World.setCell (w4.drewN nq) ⟨w.heap.size, 0, none⟩ (.int .i64 0)) ⟨w.heap.size, 1, none⟩ (.string f)) ⟨w.heap.size, 2, none⟩ (.int .i64 l)) ⟨w.heap.size, 3, none⟩ (.int .i64 c)) ⟨w.heap.size, 4, none⟩ (.int .i64 s.size)) ⟨w.heap.size, 5, none⟩ (.string ⟨#[]⟩)) := ⟨_, rfl⟩
  have hbN : (w4.drewN nq).heap[w.heap.size]? = _ := H4.out.1
  have hz : wz.heap[w.heap.size]? = some (.cells #[.int .i64 0, .string f, .int .i64 l, .int .i64 c, .int .i64 s.size, .string ⟨#[]⟩] 144 (0, 0)) := by
    rw [hwz]
    exact (setCell_lex (setCell_lex (setCell_lex (setCell_lex (setCell_lex (setCell_lex hbN 0 (.int .i64 0)) 1 (.string f)) 2 (.int .i64 l)) 3 (.int .i64 c)) 4 (.int .i64 s.size)) 5 (.string ⟨#[]⟩))
  have kst : ∀ (u : World) (i : Nat) (v : Value), Keep (· = w.heap.size) w4 u → Keep (· = w.heap.size) w4 (u.setCell ⟨w.heap.size, i, none⟩ v) := fun u i v k => k.trans (Keep.setCell (M := (· = w.heap.size)) _ _ _ (fun _ => rfl)) (fun _ _ h => h) (fun _ _ h => h)
  have kz : Keep (· = B) w wz := by
    rw [hwz]
    exact H4.out.2.trans (kst _ _ _ (kst _ _ _ (kst _ _ _ (kst _ _ _ (kst _ _ _ (kst _ _ _ (Keep.drewN w4 nq (· = w.heap.size)))))))) (fun _ _ h => h) (fun i hi h => by omega)
  rw [← hwz]
  clear hwz hbN
  have q : wz.cell? ⟨w.heap.size, 0, none⟩ = some (.int .i64 0) ∧ wz.cell? ⟨w.heap.size, 1, none⟩ = some (.string f) ∧ wz.cell? ⟨w.heap.size, 2, none⟩ = some (.int .i64 l) ∧ wz.cell? ⟨w.heap.size, 3, none⟩ = some (.int .i64 c) ∧ wz.cell? ⟨w.heap.size, 4, none⟩ = some (.int .i64 s.size) ∧ wz.cell? ⟨w.heap.size, 5, none⟩ = some (.string ⟨#[]⟩) := by
    simp [World.cell?, hz]
  obtain ⟨q0, q1, q2, q3, q4, q5⟩ := q
  refine bodyPost_ret (v := .tuple #[.agg #[.int .i64 0, .string f, .int .i64 l, .int .i64 c, .int .i64 s.size, .string ⟨#[]⟩], .nilIface]) ?_ rfl ⟨⟨l, c, s.size, f, rfl⟩, kz⟩
  simp [results, Tryz.results63, go_sem, q0, q1, q2, q3, q4, q5, Result.andThen]
end Go.Proofs.YtjclpmgfcaadmaaGreatDoor
