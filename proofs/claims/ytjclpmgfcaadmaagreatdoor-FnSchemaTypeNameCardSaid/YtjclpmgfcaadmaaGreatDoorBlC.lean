/- FnSchemaBlank: the lexer: peek, advance. -/
import Derived.Test.YtjclpmgfcaadmaaGreatDoorBlB
import Derived.Deep.RegionHeld3
import Derived.Lib.RuneCountTail
namespace Go.Proofs.YtjclpmgfcaadmaaGreatDoor
open Go.RowKit Go.Shelf

theorem Keep.drewN (w : World) (n : Nat) (M : Nat → Prop) : Keep M w (w.drewN n) := ⟨rfl, rfl, rfl, Nat.le_refl _, fun _ _ _ => rfl⟩
/-! ### the lexer in memory -/
abbrev lexO (o : Option Addr) (n cap pos : Nat) (l c : Int) (f : ByteArray) : Obj := .cells #[.slice o n cap, .int .i64 pos, .int .i64 l, .int .i64 c, .string f] 179 (0, 0)
theorem lexCells {w : World} {B n cap pos : Nat} {o : Option Addr} {l c : Int} {f : ByteArray} (h : w.heap[B]? = some (lexO o n cap pos l c f)) :
    w.cell? ⟨B, 0, none⟩ = some (.slice o n cap) ∧ w.cell? ⟨B, 1, none⟩ = some (.int .i64 pos) ∧ w.cell? ⟨B, 2, none⟩ = some (.int .i64 l) ∧ w.cell? ⟨B, 3, none⟩ = some (.int .i64 c) ∧ w.cell? ⟨B, 4, none⟩ = some (.string f) ∧
      w.frozen? ⟨B, 1, none⟩ = false ∧ w.frozen? ⟨B, 2, none⟩ = false ∧ w.frozen? ⟨B, 3, none⟩ = false := by
  simp [World.cell?, World.frozen?, h]
theorem setCell_lex {w : World} {b : Nat} {cs : Array Value} {e : TypeId} {fz : Nat × Nat} (h : w.heap[b]? = some (.cells cs e fz)) (i : Nat) (v : Value) : (w.setCell ⟨b, i, none⟩ v).heap[b]? = some (.cells (cs.setIfInBounds i v) e fz) := by
  have hlt : b < w.heap.size := (Array.getElem?_eq_some_iff.1 h).1
  simp [World.setCell, Array.getElem?_modify, h]
structure LexIs (w : World) (B : Nat) (o : Option Addr) (bb cap : Nat) (s : ByteArray) (pos : Nat) : Prop where
  blk : ∃ l c f, w.heap[B]? = some (lexO o s.size cap pos l c f)
  src : s.size = 0 ∨ (o = some ⟨bb, 0, none⟩ ∧ bb ≠ B ∧ ∀ j, j < s.size → w.cell? ⟨bb, j, none⟩ = some (.int .u8 (at8 s j)))
  cap : s.size ≤ cap
theorem LexIs.keep {w w' : World} {B : Nat} {o : Option Addr} {bb cap : Nat} {s : ByteArray} {pos : Nat} (h : LexIs w B o bb cap s pos) (k : Keep NoB w w') : LexIs w' B o bb cap s pos := by
  obtain ⟨⟨l, c, f, hb⟩, hs, hc⟩ := h
  refine ⟨⟨l, c, f, k.heap hb (fun h => h)⟩, hs.imp id fun ⟨e, hne, hj⟩ => ⟨e, hne, fun j h => k.cell (hj j h) (fun h => h)⟩, hc⟩
theorem decode_c {w : World} {bb cap : Nat} {s : ByteArray} {pos : Nat} (hT : Tabs w) (hp : pos < s.size) (hj : ∀ j, j < s.size → w.cell? ⟨bb, j, none⟩ = some (.int .u8 (at8 s j))) :
    Calls Tryz.prog 126 #[.slice (some ⟨bb, pos, none⟩) (s.size - pos) (cap - pos)] w fun e w' => e = .returned (.tuple #[.int .i32 (runeAt s pos), .int .i64 (wideAt s pos)]) ∧ Keep NoB w w' := by
  have hsz : (s.extract pos s.size).size = s.size - pos := Lib.tail_size _ _
  have h := Any7.utf8_DecodeRune Tryz.laysDecode (s.extract pos s.size) bb pos (cap - pos) w hT (fun j h => by
    rw [hsz] at h
    rw [Lib.tail_get!]
    exact hj (pos + j) (by omega))
  have hd : Lib.decodeGo (s.extract pos s.size) = Utf8.decode s pos := by
    unfold Lib.decodeGo
    rw [if_neg (by rw [Lib.tail_size]; omega), Lib.tail_decode, Nat.add_zero]
  rw [hsz, hd] at h
  exact h.mono fun e w' ⟨h1, h2⟩ => ⟨h1, Keep.ofBelow h2⟩

set_option maxRecDepth 100000 in
set_option maxHeartbeats 4000000 in
theorem peek_c {w : World} {B : Nat} {o : Option Addr} {bb cap : Nat} {s : ByteArray} {pos : Nat} (hT : Tabs w) (h : LexIs w B o bb cap s pos) (hp : pos < s.size) (hs : s.size ≤ 3000) :
    Calls Tryz.prog 86 #[.pointer (some ⟨B, 0, none⟩)] w fun e w' => e = .returned (.int .i32 (runeAt s pos)) ∧ Keep NoB w w' := by
  obtain ⟨⟨l, c, f, hb⟩, hsr, hcap⟩ := h
  rcases hsr with h0 | ⟨rfl, hne, hj⟩
  · omega
  obtain ⟨e0, e1, _⟩ := lexCells hb
  have HQ := Lib.hid (show ∀ x, Keep NoB w x → x.cell? ⟨B, 0, none⟩ = some (.slice (some ⟨bb, 0, none⟩) s.size cap) ∧ x.cell? ⟨B, 1, none⟩ = some (.int .i64 pos) from fun x k => ⟨k.cell e0 (fun h => h), k.cell e1 (fun h => h)⟩)
  have HD := Lib.hid (show ∀ x, Keep NoB w x → Calls Tryz.prog 126 #[.slice (some ⟨bb, pos, none⟩) (s.size - pos) (cap - pos)] x fun e w' => e = .returned (.tuple #[.int .i32 (runeAt s pos), .int .i64 (wideAt s pos)]) ∧ Keep NoB x w' from fun x k => decode_c (hT.keep k) hp fun j h => k.cell (hj j h) (fun h => h))
  clear hb hj hT hne
  have h1 : ¬ (s.size : Int) ≤ (pos : Int) := by omega
  have h2 : (pos : Int) ≤ (s.size : Int) := by omega
  have h3 : s.size ≤ cap := hcap
  go_enter Tryz.func86, Tryz.ntmps86
  go_wp2_with fail
  go_quiet (fail)
  go_wp2_with fail
  obtain ⟨w1, hw1⟩ : ∃ w1, w1 = w.drewN nq := ⟨_, rfl⟩
  have k1 : Keep NoB w w1 := hw1 ▸ Keep.drewN _ _ _
  rw [← hw1]
  clear hw1 e0 e1
  have hK0 : Keep NoB w w1.drew := k1.then (Keep.drew _ _)
  obtain ⟨d0, d1⟩ := HQ.out _ hK0
  have h6 : ¬ cap = pos := by omega
  go_region_held3 (fun x => x.cell? ⟨B, 0, none⟩ = some (.slice (some ⟨bb, 0, none⟩) s.size cap) ∧ x.cell? ⟨B, 1, none⟩ = some (.int .i64 pos))
    (with_reducible (first | assumption | exact HQ.out _ kwA | exact HQ.out _ hK0))
    ((go_at_call 126
      refine (HD.out _ hK0).mono ?_
      rintro e w4 ⟨rfl, k4⟩
      have kwA : Keep NoB w w4 := hK0.then k4))
  all_goals
    go_wp2_with fail
    go_ret
    exact ⟨rfl, kwA⟩

theorem LexIs.moved {w w' : World} {B : Nat} {o : Option Addr} {bb cap : Nat} {s : ByteArray} {pos q : Nat} (h : LexIs w B o bb cap s pos) (k : Keep (· = B) w w') (hb : ∃ l c f, w'.heap[B]? = some (lexO o s.size cap q l c f)) : LexIs w' B o bb cap s q :=
  ⟨hb, h.src.imp id fun ⟨e, hne, hj⟩ => ⟨e, hne, fun j h => k.cell (hj j h) hne⟩, h.cap⟩
set_option maxRecDepth 100000 in
set_option maxHeartbeats 4000000 in
theorem advance_c {w : World} {B : Nat} {o : Option Addr} {bb cap : Nat} {s : ByteArray} {pos : Nat} (hT : Tabs w) (h : LexIs w B o bb cap s pos) (hp : pos < s.size) (hs : s.size ≤ 3000) :
    Calls Tryz.prog 91 #[.pointer (some ⟨B, 0, none⟩)] w fun e w' => e = .returned (.int .i32 (runeAt s pos)) ∧ LexIs w' B o bb cap s (pos + wideAt s pos) ∧ Keep (· = B) w w' := by
  have HL := Lib.hid h
  obtain ⟨⟨l, c, f, hb⟩, hsr, hcap⟩ := h
  rcases hsr with h0 | ⟨rfl, hne, hj⟩
  · omega
  obtain ⟨e0, e1, _⟩ := lexCells hb
  have HQ := Lib.hid (show ∀ x, Keep NoB w x → x.cell? ⟨B, 0, none⟩ = some (.slice (some ⟨bb, 0, none⟩) s.size cap) ∧ x.cell? ⟨B, 1, none⟩ = some (.int .i64 pos) from fun x k => ⟨k.cell e0 (fun h => h), k.cell e1 (fun h => h)⟩)
  have HD := Lib.hid (show ∀ x, Keep NoB w x → Calls Tryz.prog 126 #[.slice (some ⟨bb, pos, none⟩) (s.size - pos) (cap - pos)] x fun e w' => e = .returned (.tuple #[.int .i32 (runeAt s pos), .int .i64 (wideAt s pos)]) ∧ Keep NoB x w' from fun x k => decode_c (hT.keep k) hp fun j h => k.cell (hj j h) (fun h => h))
  have HB := Lib.hid hb
  obtain ⟨hw1, hw2, hw3⟩ := rune_wide hp
  clear hb hj hT hne
  generalize runeAt s pos = R at HD hw3 ⊢
  generalize wideAt s pos = W at HD hw1 hw2 hw3 ⊢
  have h1 : ¬ (s.size : Int) ≤ (pos : Int) := by omega
  have h2 : (pos : Int) ≤ (s.size : Int) := by omega
  have h3 : s.size ≤ cap := hcap
  have h7 : wrap64 ((pos : Int) + (W : Int)) = (pos : Int) + (W : Int) := by unfold wrap64; omega
  go_enter Tryz.func91, Tryz.ntmps91
  go_wp2_with fail
  go_quiet (fail)
  go_wp2_with fail
  obtain ⟨w1, hw1'⟩ : ∃ w1, w1 = w.drewN nq := ⟨_, rfl⟩
  have k1 : Keep NoB w w1 := hw1' ▸ Keep.drewN _ _ _
  rw [← hw1']
  clear hw1' e0 e1
  have hK0 : Keep NoB w w1.drew := k1.then (Keep.drew _ _)
  obtain ⟨d0, d1⟩ := HQ.out _ hK0
  have h6 : ¬ cap = pos := by omega
  go_region_held3 (fun x => x.cell? ⟨B, 0, none⟩ = some (.slice (some ⟨bb, 0, none⟩) s.size cap) ∧ x.cell? ⟨B, 1, none⟩ = some (.int .i64 pos))
    (with_reducible (first | assumption | exact HQ.out _ kwA | exact HQ.out _ hK0))
    ((go_at_call 126
      refine (HD.out _ hK0).mono ?_
      rintro e w4 ⟨rfl, k4⟩
      have kwA : Keep NoB w w4 := hK0.then k4))
  all_goals
    have hb4 := kwA.heap HB.out (fun h => h)
    obtain ⟨f0, f1, f2, f3, f4, z1, z2, z3⟩ := lexCells hb4
    have H4 := Lib.hid (And.intro hb4 kwA)
    clear hb4 kwA k4 d0 d1 hK0 k1
    by_cases h10 : R = 10
    · subst h10
      go_wp2_with fail
      go_ret
      have hb5 := setCell_lex (setCell_lex (setCell_lex H4.out.1 1 (.int .i64 ((pos : Int) + (W : Int)))) 2 (.int .i64 (wrap64 (l + 1)))) 3 (.int .i64 1)
      have kst : ∀ (u : World) (i : Nat) (v : Value), Keep (· = B) u (u.setCell ⟨B, i, none⟩ v) := fun u i v => Keep.setCell _ _ _ (fun _ => rfl)
      have kk : Keep (· = B) w _ := ((H4.out.2.trans (kst _ 1 (.int .i64 ((pos : Int) + (W : Int)))) (M'' := (· = B)) (fun _ _ h => h.elim) (fun _ _ h => h)).trans (kst _ 2 (.int .i64 (wrap64 (l + 1)))) (M'' := (· = B)) (fun _ _ h => h) (fun _ _ h => h)).trans (kst _ 3 (.int .i64 1)) (M'' := (· = B)) (fun _ _ h => h) (fun _ _ h => h)
      exact ⟨rfl, HL.out.moved kk ⟨wrap64 (l + 1), 1, f, by rw [hb5]; rfl⟩, kk⟩
    · have h8 : ((R : Int) == 10) = false := beq_false_of_ne (by omega)
      go_wp2_with fail
      go_ret
      have hb5 := setCell_lex (setCell_lex H4.out.1 1 (.int .i64 ((pos : Int) + (W : Int)))) 3 (.int .i64 (wrap64 (c + 1)))
      have kst : ∀ (u : World) (i : Nat) (v : Value), Keep (· = B) u (u.setCell ⟨B, i, none⟩ v) := fun u i v => Keep.setCell _ _ _ (fun _ => rfl)
      have kk : Keep (· = B) w _ := (H4.out.2.trans (kst _ 1 (.int .i64 ((pos : Int) + (W : Int)))) (M'' := (· = B)) (fun _ _ h => h.elim) (fun _ _ h => h)).trans (kst _ 3 (.int .i64 (wrap64 (c + 1)))) (M'' := (· = B)) (fun _ _ h => h) (fun _ _ h => h)
      exact ⟨rfl, HL.out.moved kk ⟨l, wrap64 (c + 1), f, by rw [hb5]; rfl⟩, kk⟩
end Go.Proofs.YtjclpmgfcaadmaaGreatDoor
