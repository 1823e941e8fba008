/- FnSchemaBlank: the lexer's position, its next token at the end of the text. -/
import Derived.Test.YtjclpmgfcaadmaaGreatDoorBlD
import Derived.BigRegion
namespace Go.Proofs.YtjclpmgfcaadmaaGreatDoor
open Go.RowKit Go.Shelf

set_option maxRecDepth 100000 in
set_option maxHeartbeats 4000000 in
theorem position_c {w : World} {B : Nat} {o : Option Addr} {bb cap : Nat} {s : ByteArray} {pos : Nat} (h : LexIs w B o bb cap s pos) :
    Calls Tryz.prog 85 #[.pointer (some ⟨B, 0, none⟩)] w fun e w' => (∃ (l c : Int) (f : ByteArray), e = .returned (.agg #[.string f, .int .i64 l, .int .i64 c, .int .i64 pos])) ∧ Keep NoB w w' := by
  obtain ⟨⟨l, c, f, hb⟩, _, _⟩ := h
  have HQ := Lib.hid (show ∀ x, Keep NoB w x → x.cell? ⟨B, 1, none⟩ = some (.int .i64 pos) ∧ x.cell? ⟨B, 2, none⟩ = some (.int .i64 l) ∧ x.cell? ⟨B, 3, none⟩ = some (.int .i64 c) ∧ x.cell? ⟨B, 4, none⟩ = some (.string f) from fun x k => by
    obtain ⟨_, e1, e2, e3, e4, _⟩ := lexCells (k.heap hb (fun h => h))
    exact ⟨e1, e2, e3, e4⟩)
  clear hb
  go_enter Tryz.func85, Tryz.ntmps85
  go_wp2_with fail
  obtain ⟨w1, hw1⟩ : ∃ w1, w1 = w.alloc (.cells #[.string ⟨#[]⟩, .int .i64 0, .int .i64 0, .int .i64 0] 142) := ⟨_, rfl⟩
  have k1 : Keep NoB w w1 := hw1 ▸ Keep.alloc _ _ _
  have hb1 : w1.heap[w.heap.size]? = some (.cells #[.string ⟨#[]⟩, .int .i64 0, .int .i64 0, .int .i64 0] 142 (0, 0)) := hw1 ▸ (MapKept.heap_alloc _ _).1
  rw [← hw1]
  clear hw1
  have late : ∀ (x : World) (i : Nat) (v : Value), Keep NoB w x → Keep NoB w (x.setCell ⟨w.heap.size, i, none⟩ v) := fun x i v k => k.trans (Keep.setCell (M := (· = w.heap.size)) _ _ _ (fun _ => rfl)) (fun _ _ h => h) (fun i hi h => by omega)
  have hK0 : Keep NoB w w1.drew := k1.then (Keep.drew _ _)
  obtain ⟨d1, d2, d3, d4⟩ := HQ.out _ hK0
  have g0 : w1.drew.cell? ⟨w.heap.size, 0, none⟩ = some (.string ⟨#[]⟩) ∧ w1.drew.cell? ⟨w.heap.size, 1, none⟩ = some (.int .i64 0) ∧ w1.drew.cell? ⟨w.heap.size, 2, none⟩ = some (.int .i64 0) ∧ w1.drew.cell? ⟨w.heap.size, 3, none⟩ = some (.int .i64 0) ∧ w1.drew.frozen? ⟨w.heap.size, 0, none⟩ = false ∧ w1.drew.frozen? ⟨w.heap.size, 1, none⟩ = false ∧ w1.drew.frozen? ⟨w.heap.size, 2, none⟩ = false ∧ w1.drew.frozen? ⟨w.heap.size, 3, none⟩ = false := by
    have hb2 : w1.drew.heap[w.heap.size]? = _ := hb1
    simp [World.cell?, World.frozen?, hb2]
  obtain ⟨g0, g1, g2, g3, z0, z1, z2, z3⟩ := g0
  have p0 : w1.cell? ⟨w.heap.size, 0, none⟩ = some (.string ⟨#[]⟩) ∧ w1.cell? ⟨w.heap.size, 1, none⟩ = some (.int .i64 0) ∧ w1.cell? ⟨w.heap.size, 2, none⟩ = some (.int .i64 0) ∧ w1.cell? ⟨w.heap.size, 3, none⟩ = some (.int .i64 0) ∧ w1.frozen? ⟨w.heap.size, 0, none⟩ = false ∧ w1.frozen? ⟨w.heap.size, 1, none⟩ = false ∧ w1.frozen? ⟨w.heap.size, 2, none⟩ = false ∧ w1.frozen? ⟨w.heap.size, 3, none⟩ = false := by
    simp [World.cell?, World.frozen?, hb1]
  obtain ⟨p0, p1, p2, p3, y0, y1, y2, y3⟩ := p0
  go_region
  all_goals
    go_wp2_with fail
    obtain ⟨wz, hwz⟩ : ∃ wz, wz = ((((w1.setCell ⟨w.heap.size, 0, none⟩ (.string f)).setCell ⟨w.heap.size, 1, none⟩ (.int .i64 l)).setCell ⟨w.heap.size, 2, none⟩ (.int .i64 c)).setCell ⟨w.heap.size, 3, none⟩ (.int .i64 pos)).drew := ⟨_, rfl⟩
    have hz : wz.heap[w.heap.size]? = some (.cells #[.string f, .int .i64 l, .int .i64 c, .int .i64 pos] 142 (0, 0)) := by
      rw [hwz]
      exact setCell_lex (setCell_lex (setCell_lex (setCell_lex hb1 0 (.string f)) 1 (.int .i64 l)) 2 (.int .i64 c)) 3 (.int .i64 pos)
    have kz : Keep NoB w wz := by
      rw [hwz]
      exact (late _ _ _ (late _ _ _ (late _ _ _ (late _ _ _ k1)))).then (Keep.drew _ _)
    rw [← hwz]
    clear hwz
    have q0 : wz.cell? ⟨w.heap.size, 0, none⟩ = some (.string f) := by simp [World.cell?, hz]
    have q1 : wz.cell? ⟨w.heap.size, 1, none⟩ = some (.int .i64 l) := by simp [World.cell?, hz]
    have q2 : wz.cell? ⟨w.heap.size, 2, none⟩ = some (.int .i64 c) := by simp [World.cell?, hz]
    have q3 : wz.cell? ⟨w.heap.size, 3, none⟩ = some (.int .i64 pos) := by simp [World.cell?, hz]
    refine bodyPost_ret (v := .agg #[.string f, .int .i64 l, .int .i64 c, .int .i64 pos]) ?_ rfl ⟨⟨l, c, f, rfl⟩, kz⟩
    simp [results, Tryz.results85, go_sem, q0, q1, q2, q3, Result.andThen]
end Go.Proofs.YtjclpmgfcaadmaaGreatDoor
