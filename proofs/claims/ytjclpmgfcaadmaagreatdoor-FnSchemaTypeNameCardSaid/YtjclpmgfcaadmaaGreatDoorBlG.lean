/- FnSchemaBlank: the parser on a blank text. -/
import Derived.Test.YtjclpmgfcaadmaaGreatDoorBlF
namespace Go.Proofs.YtjclpmgfcaadmaaGreatDoor
open Go.RowKit Go.Shelf

theorem cellAt {w : World} {b : Nat} {cs : Array Value} {e : TypeId} {fz : Nat × Nat} (h : w.heap[b]? = some (.cells cs e fz)) {i : Nat} : w.cell? ⟨b, i, none⟩ = cs[i]? := by
  simp [World.cell?, h]
theorem newLexer_c (f : ByteArray) (o : Option Addr) (n cap : Nat) (w : World) : Calls Tryz.prog 45 #[.string f, .slice o n cap] w fun e w' => e = .returned (.pointer (some ⟨w.heap.size, 0, none⟩)) ∧ w' = w.alloc (lexO o n cap 0 1 1 f) := by
  go_enter Tryz.func45, Tryz.ntmps45
  go_wp2_with fail
  go_ret
  exact ⟨rfl, rfl⟩

set_option maxRecDepth 100000 in
set_option maxHeartbeats 4000000 in
theorem readToken_c {w : World} {A B : Nat} {o : Option Addr} {bb cap : Nat} {s : ByteArray} (hT : ∀ x, Keep (· = B) w x → Tabs x) (hB : B < w.heap.size) (hAB : A ≠ B) (hA : w.heap[A]? = some (.cells #[.pointer (some ⟨B, 0, none⟩), .int .i64 0, .string ⟨#[]⟩, .int .i64 0, .int .i64 0, .int .i64 0, .string ⟨#[]⟩] 146 (0, 0)))
    (h : LexIs w B o bb cap s 0) (hbl : Bl s 0) (hs : s.size ≤ 3000) :
    Calls Tryz.prog 46 #[.pointer (some ⟨A, 0, none⟩)] w fun e w' => e = .returned .nilIface ∧ w'.cell? ⟨A, 1, none⟩ = some (.int .i64 0) ∧ Keep (fun i => i = A ∨ i = B) w w' := by
  have HN := Lib.hid (next_c hT hB h hbl hs)
  have e0 : w.cell? ⟨A, 0, none⟩ = some (.pointer (some ⟨B, 0, none⟩)) := by simp [World.cell?, hA]
  have HA := Lib.hid hA
  clear hT h hbl hA
  go_enter Tryz.func46, Tryz.ntmps46
  go_wp2_with fail
  refine HN.out.mono ?_
  rintro e w1 ⟨⟨l, c, p, f, rfl⟩, k1⟩
  have hA1 := k1.heap HA.out hAB
  have H1 := Lib.hid (And.intro hA1 k1)
  have hlt : A < w1.heap.size := (Array.getElem?_eq_some_iff.1 hA1).1
  have g0 : w1.cell? ⟨A, 1, none⟩ = some (.int .i64 0) ∧ w1.cell? ⟨A, 2, none⟩ = some (.string ⟨#[]⟩) ∧ w1.cell? ⟨A, 3, none⟩ = some (.int .i64 0) ∧ w1.cell? ⟨A, 4, none⟩ = some (.int .i64 0) ∧ w1.cell? ⟨A, 5, none⟩ = some (.int .i64 0) ∧ w1.cell? ⟨A, 6, none⟩ = some (.string ⟨#[]⟩) ∧
      w1.frozen? ⟨A, 1, none⟩ = false ∧ w1.frozen? ⟨A, 2, none⟩ = false ∧ w1.frozen? ⟨A, 3, none⟩ = false ∧ w1.frozen? ⟨A, 4, none⟩ = false ∧ w1.frozen? ⟨A, 5, none⟩ = false ∧ w1.frozen? ⟨A, 6, none⟩ = false := by
    simp [World.cell?, World.frozen?, hA1]
  obtain ⟨g1, g2, g3, g4, g5, g6, z1, z2, z3, z4, z5, z6⟩ := g0
  clear hA1 k1
  go_wp2_with fail
  go_ret
  have kst : ∀ (u : World) (i : Nat) (v : Value), Keep (· = A) w1 u → Keep (· = A) w1 (u.setCell ⟨A, i, none⟩ v) := fun u i v k => k.trans (Keep.setCell (M := (· = A)) _ _ _ (fun _ => rfl)) (fun _ _ h => h) (fun _ _ h => h)
  have hh := (setCell_lex (setCell_lex (setCell_lex (setCell_lex (setCell_lex (setCell_lex H1.out.1 1 (.int .i64 0)) 2 (.string f)) 3 (.int .i64 l)) 4 (.int .i64 c)) 5 (.int .i64 p)) 6 (.string ⟨#[]⟩))
  refine ⟨rfl, (Keep.alloc _ _ NoB).cell ?_ (fun h => h), (H1.out.2.trans (kst _ _ _ (kst _ _ _ (kst _ _ _ (kst _ _ _ (kst _ _ _ (kst _ _ _ (Keep.refl (· = A) w1))))))) (M'' := fun i => i = A ∨ i = B) (fun _ _ h => .inr h) (fun _ _ h => .inl h)).trans (Keep.alloc _ _ NoB) (fun _ _ h => h) (fun _ _ h => h.elim)⟩
  rw [cellAt hh]; rfl
end Go.Proofs.YtjclpmgfcaadmaaGreatDoor
