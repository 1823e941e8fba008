/- The schema's parser: an entity type with a name alone. -/
import Derived.Test.YtjclpmgfcaadmaaGreatDoorLxF
namespace Go.Proofs.YtjclpmgfcaadmaaGreatDoor
open Go.RowKit Go.Shelf

abbrev astO (me mn ma mc ms : Option Nat) : Obj := .cells #[.map me, .map mn, .map ma, .map mc, .map ms] 63 (0, 0)
abbrev ABC (A B C : Nat) : Nat → Prop := fun i => i = A ∨ i = B ∨ i = C
theorem zeroAEnt (w : World) : (zeroValue 96).run Tryz.prog w = .ok (.agg #[.map none, .slice none 0 0, .map none, .nilIface]) w := by kernel_rfl
theorem zeroAEnum (w : World) : (zeroValue 103).run Tryz.prog w = .ok (.agg #[.map none, .slice none 0 0]) w := by kernel_rfl
theorem astCells {w : World} {C : Nat} {me mn ma mc ms : Option Nat} (h : w.heap[C]? = some (astO me mn ma mc ms)) :
    w.cell? ⟨C, 0, none⟩ = some (.map me) ∧ w.cell? ⟨C, 1, none⟩ = some (.map mn) ∧ w.cell? ⟨C, 2, none⟩ = some (.map ma) ∧ w.cell? ⟨C, 3, none⟩ = some (.map mc) ∧ w.cell? ⟨C, 4, none⟩ = some (.map ms) ∧
      w.frozen? ⟨C, 0, none⟩ = false ∧ w.frozen? ⟨C, 3, none⟩ = false := by
  simp [World.cell?, World.frozen?, h]
/-- The schema's block is none of the parser's. -/
theorem PIs.ne_ast {w0 w : World} {A B : Nat} {o : Option Addr} {bb cap : Nat} {s : ByteArray} {p k : Nat} {t : ByteArray} (h : PIs w0 w A B o bb cap s p k t) {C : Nat} {me mn ma mc ms : Option Nat} (hC : w.heap[C]? = some (astO me mn ma mc ms)) :
    C ≠ A ∧ C ≠ B ∧ (s.size = 0 ∨ C ≠ bb) := by
  obtain ⟨f, l, c, q, hb⟩ := h.blk
  obtain ⟨l2, c2, f2, hb2⟩ := h.lex.blk
  refine ⟨fun e => ?_, fun e => ?_, ?_⟩
  · subst e; rw [hC] at hb; simp at hb
  · subst e; rw [hC] at hb2; simp at hb2
  · rcases h.lex.src with h0 | ⟨_, _, hj⟩
    · exact .inl h0
    · rcases Nat.eq_zero_or_pos s.size with h0 | h0
      · exact .inl h0
      · refine .inr fun e => ?_
        subst e
        have := hj 0 h0
        simp [World.cell?, hC] at this

theorem kget_nil {κ α : Type} [DecidableEq κ] (x : κ) : kget ([] : List (κ × α)) x = none := rfl
set_option maxRecDepth 100000 in
set_option maxHeartbeats 8000000 in
theorem pEntity_c {w0 w : World} {A B C : Nat} {o : Option Addr} {bb cap : Nat} {s : ByteArray} {p q1 q2 : Nat} {t : ByteArray} (h : PIs w0 w A B o bb cap s p 1 t) (hC : w.heap[C]? = some (astO none none none none none)) (hC0 : w0.heap.size ≤ C) (hn1 : NextIs s p 13 ⟨#[59]⟩ q1) (hn2 : NextIs s q1 0 ⟨#[]⟩ q2) :
    Calls Tryz.prog 99 #[.pointer (some ⟨A, 0, none⟩), .map none, .pointer (some ⟨C, 0, none⟩)] w fun e w' => e = .returned .nilIface ∧ PIs w0 w' A B o bb cap s q2 0 ⟨#[]⟩ ∧
      (∃ m, w.heap.size ≤ m ∧ w'.heap[C]? = some (astO (some m) none none none none) ∧ KMap Value.string w' m [(t, .agg #[.map none, .slice none 0 0, .map none, .nilIface])]) ∧ Keep (ABC A B C) w w' := by
  have H0 := Lib.hid (And.intro h (And.intro hC (And.intro hC0 hn2)))
  have HI := Lib.hid (pIdents_c h hn1 (by decide))
  clear h hC hC0 hn1 hn2
  go_enter Tryz.func99, Tryz.ntmps99
  go_wp2_with fail
  refine HI.out.mono ?_
  rintro e w1 ⟨⟨b, c, rfl, hb, hb1⟩, h1, k1⟩
  obtain ⟨d1, d6⟩ := h1.cells
  have HE := Lib.hid (pExpect_c h1 H0.out.2.2.2)
  have H1 := Lib.hid (And.intro hb (And.intro hb1 (And.intro h1 k1)))
  clear hb hb1 h1 k1
  go_wp2_with fail
  refine HE.out.mono ?_
  rintro e w2 ⟨rfl, h2, k2⟩
  obtain ⟨h0, hC, hC0, _⟩ := H0.out
  obtain ⟨hb, hb1, h1, k1⟩ := H1.out
  obtain ⟨nA, nB, nbb⟩ := h0.ne_ast hC
  have k02 : Keep (AB A B) w w2 := k1.trans k2 (fun _ _ h => h) (fun _ _ h => h)
  have hC2 := k02.heap hC (by rintro (e | e) <;> omega)
  have hltA := h0.ltA
  have hltB := h0.ltB
  have hltC := (Array.getElem?_eq_some_iff.1 hC).1
  have hb2 := k2.cell hb1 (by rintro (e | e) <;> (dsimp only at e; omega))
  obtain ⟨c0, c1, _, _, _, z0, _⟩ := astCells hC2
  have hmm := @run_makeMap Tryz.prog
  have heq := fun (x : World) => run_eql_map_nil (P := Tryz.prog) x 53 86 96 none Tryz.underlying53
  have hC3 := (Keep.alloc w2 (.map #[] 0) NoB).heap hC2 (fun h => h)
  obtain ⟨a0, _, _, _, _, y0, _⟩ := astCells hC3
  have H2 := Lib.hid (And.intro h2 (And.intro k02 (And.intro hC2 (And.intro hb2 (And.intro nA (And.intro nB (And.intro nbb (And.intro hltC (And.intro hb k2)))))))))
  clear h0 hC hC0 hb hb1 h1 k1 nA nB nbb k02 hC2 hC3 hltA hltB hltC hb2 h2 k2
  go_wp2_with fail
  clear hmm heq c0 c1 z0 a0 y0
  obtain ⟨w3, hw3⟩ : ∃ x, x = w2.alloc (.map #[] 0) := ⟨_, rfl⟩
  have k3 : Keep NoB w2 w3 := hw3 ▸ Keep.alloc _ _ _
  have hm3 : KMap Value.string w3 w2.heap.size [] := hw3 ▸ KMap.made w2
  rw [← hw3]
  clear hw3
  obtain ⟨w4, hw4⟩ : ∃ x, x = w3.setCell ⟨C, 0, none⟩ (.map (some w2.heap.size)) := ⟨_, rfl⟩
  rw [← hw4]
  obtain ⟨h2, k02, hC2, hb2, nA, nB, nbb, hltC, hb, k2⟩ := H2.out
  have h4s := k02.size
  have kC4 : Keep (· = C) w3 w4 := hw4 ▸ Keep.setCell _ _ _ (fun _ => rfl)
  have hC4 : w4.heap[C]? = some (astO (some w2.heap.size) none none none none) := hw4 ▸ setCell_lex (k3.heap hC2 (fun h => h)) 0 _
  have hm4 := hm3.keep kC4 (show ¬ w2.heap.size = C by omega)
  have hb4 := kC4.cell (k3.cell hb2 (fun h => h)) (show ¬ b = C by omega)
  obtain ⟨a0, a1, _⟩ := astCells hC4
  have hlk := hm4.lookup (strKey Tryz.underlying86) Tryz.underlying53 (zeroAEnt w4) t true
  simp only [if_true, kget_nil, Option.getD_none, Option.isSome_none] at hlk
  have kx5 := Keep.alloc w4 (.cells #[.map none, .slice none 0 0, .map none, .nilIface] 96) NoB
  have hC5 := kx5.heap hC4 (fun h => h)
  obtain ⟨b0, b1, _⟩ := astCells hC5
  have hln := fun (x : World) => kmap_lookup_nil (strKey Tryz.underlying86) x Tryz.underlying55 (zeroAEnum x) t true
  simp only [if_true] at hln
  have kx6 := kx5.then (Keep.alloc _ (.cells #[.map none, .slice none 0 0] 103) NoB)
  have hC6 := kx6.heap hC4 (fun h => h)
  obtain ⟨e0, e1, _⟩ := astCells hC6
  obtain ⟨ob, hupd, hm7⟩ := (hm4.keep kx6 (fun h => h)).update (strKey Tryz.underlying86) Tryz.underlying53 t (.agg #[.map none, .slice none 0 0, .map none, .nilIface])
  have HF := Lib.hid (And.intro hm7 (And.intro kx6 (And.intro hC4 (And.intro kC4 (And.intro k3 h4s)))))
  clear h2 k02 hC2 hb2 nA nB nbb hb k2 h4s kC4 hC4 hm4 hm3 kx5 hC5 kx6 hC6 hm7 hw4 k3 hltC
  refine wp_loop_rounds 2 ?_
  rw [rounds_succ]
  go_wp2_with fail
  rw [rounds_succ]
  go_wp2_with fail
  go_ret
  obtain ⟨h2, k02, hC2, hb2, nA, nB, nbb, hltC, hb, k2⟩ := H2.out
  obtain ⟨hm7, kx6, hC4, kC4, k3, h4s⟩ := HF.out
  have hC0 := H0.out.2.2.1
  have hAB := h2.keep
  have hlA := h2.ltA
  have hlB := h2.ltB
  have kM : ∀ (x : World) (o : Obj), Keep (· = w2.heap.size) x (ChangeMaps.setBlock x w2.heap.size o) := fun x o => Keep.setBlock _ _ _ (fun _ => rfl)
  have hk24 : Keep (· = C) w2 w4 := k3.first kC4
  have hk26 : Keep (· = C) w2 _ := hk24.then kx6
  have hk27 : Keep (· = C) w2 _ := hk26.trans (kM _ ob) (fun _ _ h => h) (fun i hi h => by omega)
  refine ⟨rfl, ?_, ⟨w2.heap.size, h4s, (kM _ ob).heap (kx6.heap hC4 (fun h => h)) (show ¬ C = w2.heap.size by omega), hm7⟩, k02.trans hk27 (fun _ _ h => h.elim .inl fun h => .inr (.inl h)) (fun _ _ h => .inr (.inr h))⟩
  exact h2.other hk27 (fun e => nA e.symm) (fun e => nB e.symm) (nbb.imp id fun h e => h e.symm) (fun i hi e => by omega)
end Go.Proofs.YtjclpmgfcaadmaaGreatDoor
