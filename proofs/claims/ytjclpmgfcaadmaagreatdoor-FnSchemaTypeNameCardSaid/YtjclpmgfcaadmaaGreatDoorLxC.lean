/- The schema's lexer: its next token. -/
import Derived.Test.YtjclpmgfcaadmaaGreatDoorLxB
import Derived.Test.YtjclpmgfcaadmaaGreatDoorBlG
namespace Go.Proofs.YtjclpmgfcaadmaaGreatDoor
open Go.RowKit Go.Shelf

def identKind (t : ByteArray) : Nat := if t ∈ kws then 18 else 1
/-- what next gives -/
def TokOut (B : Nat) (o : Option Addr) (bb cap : Nat) (s : ByteArray) (w : World) (k : Nat) (t : ByteArray) (q : Nat) (e : Ending) (w' : World) : Prop :=
  (∃ (l c p : Int) (f : ByteArray), e = .returned (.tuple #[.agg #[.int .i64 k, .string f, .int .i64 l, .int .i64 c, .int .i64 p, .string t], .nilIface])) ∧ LexIs w' B o bb cap s q ∧ Keep (· = B) w w'
abbrev tokO (k : Nat) (f : ByteArray) (l c p : Int) (t : ByteArray) : Obj := .cells #[.int .i64 k, .string f, .int .i64 l, .int .i64 c, .int .i64 p, .string t] 144 (0, 0)
theorem LexIs.apart {w w' : World} {B N : Nat} {o : Option Addr} {bb cap : Nat} {s : ByteArray} {pos : Nat} {f : ByteArray} {l c p : Int} {k : Nat} {t : ByteArray} (h : LexIs w B o bb cap s pos) (hN : w.heap[N]? = some (tokO k f l c p t)) (k : Keep (· = N) w w') (hne : N ≠ B) : LexIs w' B o bb cap s pos := by
  obtain ⟨⟨l, c, f, hb⟩, hs, hc⟩ := h
  rcases Nat.eq_zero_or_pos s.size with h0 | h0
  · exact ⟨⟨l, c, f, k.heap hb (fun h => hne h.symm)⟩, .inl h0, hc⟩
  refine ⟨⟨l, c, f, k.heap hb (fun h => hne h.symm)⟩, hs.imp id fun ⟨e, hB, hj⟩ => ⟨e, hB, fun j h => k.cell (hj j h) ?_⟩, hc⟩
  intro e
  dsimp only at e
  subst e
  have := hj 0 h0
  simp [World.cell?, hN] at this
/-- the six stores into the result -/
theorem tokStored {wx w' : World} {N : Nat} {f : ByteArray} {l c p : Int} {k : Nat} {t : ByteArray} (hb : wx.heap[N]? = some (tokO 0 ⟨#[]⟩ 0 0 0 ⟨#[]⟩))
    (hw : w' = World.setCell (World.setCell (World.setCell (World.setCell (World.setCell (World.setCell wx ⟨N, 0, none⟩ (.int .i64 k)) ⟨N, 1, none⟩ (.string f)) ⟨N, 2, none⟩ (.int .i64 l)) ⟨N, 3, none⟩ (.int .i64 c)) ⟨N, 4, none⟩ (.int .i64 p)) ⟨N, 5, none⟩ (.string t)) :
    w'.heap[N]? = some (tokO k f l c p t) ∧ Keep (· = N) wx w' := by
  subst hw
  refine ⟨(setCell_lex (setCell_lex (setCell_lex (setCell_lex (setCell_lex (setCell_lex hb 0 (.int .i64 k)) 1 (.string f)) 2 (.int .i64 l)) 3 (.int .i64 c)) 4 (.int .i64 p)) 5 (.string t)), ?_⟩
  have kst : ∀ (u : World) (i : Nat) (v : Value), Keep (· = N) wx u → Keep (· = N) wx (u.setCell ⟨N, i, none⟩ v) := fun u i v k => k.trans (Keep.setCell (M := (· = N)) _ _ _ (fun _ => rfl)) (fun _ _ h => h) (fun _ _ h => h)
  exact kst _ _ _ (kst _ _ _ (kst _ _ _ (kst _ _ _ (kst _ _ _ (kst _ _ _ (Keep.refl _ _))))))
theorem tokCells {w : World} {N : Nat} {f : ByteArray} {l c p : Int} {k : Nat} {t : ByteArray} (hb : w.heap[N]? = some (tokO k f l c p t)) :
    w.cell? ⟨N, 0, none⟩ = some (.int .i64 k) ∧ w.cell? ⟨N, 1, none⟩ = some (.string f) ∧ w.cell? ⟨N, 2, none⟩ = some (.int .i64 l) ∧ w.cell? ⟨N, 3, none⟩ = some (.int .i64 c) ∧ w.cell? ⟨N, 4, none⟩ = some (.int .i64 p) ∧ w.cell? ⟨N, 5, none⟩ = some (.string t) ∧
      w.frozen? ⟨N, 0, none⟩ = false ∧ w.frozen? ⟨N, 1, none⟩ = false ∧ w.frozen? ⟨N, 2, none⟩ = false ∧ w.frozen? ⟨N, 3, none⟩ = false ∧ w.frozen? ⟨N, 4, none⟩ = false ∧ w.frozen? ⟨N, 5, none⟩ = false := by
  simp [World.cell?, World.frozen?, hb]

set_option maxRecDepth 100000 in
set_option maxHeartbeats 8000000 in
theorem nextIdent_c {w : World} {B : Nat} {o : Option Addr} {bb cap : Nat} {s : ByteArray} {p m q : Nat} (hT : ∀ x, Keep (· = B) w x → Tabs x) (hB : B < w.heap.size) (h : LexIs w B o bb cap s p) (hsk : Sk s p m) (hi : Idn s m q) (hs : s.size ≤ 3000) :
    Calls Tryz.prog 63 #[.pointer (some ⟨B, 0, none⟩)] w (TokOut B o bb cap s w (identKind (s.extract m q)) (s.extract m q) q) := by
  have HT := Lib.hid hT
  have H0 := Lib.hid (And.intro h (And.intro hsk hi))
  have hms : m < s.size := by have := hi.lt; have := hi.le; omega
  clear hT h hsk hi
  go_enter Tryz.func63, Tryz.ntmps63
  go_wp2_with fail
  obtain ⟨w1, hw1⟩ : ∃ w1, w1 = w.alloc (.cells #[.int .i64 0, .string ⟨#[]⟩, .int .i64 0, .int .i64 0, .int .i64 0, .string ⟨#[]⟩] 144) := ⟨_, rfl⟩
  have k1 : Keep NoB w w1 := hw1 ▸ Keep.alloc _ _ _
  have hb1 : w1.heap[w.heap.size]? = some (tokO 0 ⟨#[]⟩ 0 0 0 ⟨#[]⟩) := hw1 ▸ (MapKept.heap_alloc _ _).1
  rw [← hw1]
  clear hw1
  have kB1 : Keep (· = B) w w1 := k1.mono fun _ _ h => h.elim
  refine (skipTo_c (fun x kx => HT.out x (kB1.trans kx (fun _ _ h => h) (fun _ _ h => h))) (H0.out.1.keep k1) H0.out.2.1 hs).mono ?_
  rintro e w2 ⟨rfl, hl2, k2⟩
  have hb2 := k2.heap hb1 (show ¬ w.heap.size = B by omega)
  have H2 := Lib.hid (And.intro hl2 (And.intro (kB1.trans k2 (M'' := (· = B)) (fun _ _ h => h) (fun _ _ h => h)) hb2))
  clear hl2 k2 hb1 hb2 kB1 k1
  go_wp2_with fail
  refine (position_c H2.out.1).mono ?_
  rintro e w3 ⟨⟨l, c, f, rfl⟩, k3⟩
  have hl3 := H2.out.1.keep k3
  have hb3 := k3.heap H2.out.2.2 (fun h => h)
  have hs1 := (Array.getElem?_eq_some_iff.1 hb3).1
  obtain ⟨w4, hw4⟩ : ∃ x, x = w3.alloc (.cells #[.string f, .int .i64 l, .int .i64 c, .int .i64 m] 142) := ⟨_, rfl⟩
  have k4 : Keep NoB w3 w4 := hw4 ▸ Keep.alloc _ _ _
  have hbP : w4.heap[w3.heap.size]? = some (.cells #[.string f, .int .i64 l, .int .i64 c, .int .i64 m] 142 (0, 0)) := hw4 ▸ (MapKept.heap_alloc _ _).1
  have hbT := k4.heap hb3 (fun h => h)
  have hl4 := hl3.keep k4
  obtain ⟨lL, lc, lf, hbk⟩ := hl4.blk
  obtain ⟨e0, e1, _⟩ := lexCells hbk
  have H4 := Lib.hid (And.intro hl4 (And.intro hbP (And.intro hbT (And.intro (H2.out.2.1.trans (k3.then k4) (M'' := (· = B)) (fun _ _ h => h) (fun _ _ h => h.elim)) hs1))))
  have h1 : ¬ (s.size : Int) ≤ (m : Int) := by omega
  clear hl3 hb3 hbP hbT k3 k4 hbk hl4 hs1
  go_upto_region 5 with fail
  rw [← hw4]
  clear hw4
  go_quiet (fail)
  obtain ⟨w5, hw5⟩ : ∃ x, x = w4.drewN nq := ⟨_, rfl⟩
  have k5 : Keep NoB w4 w5 := hw5 ▸ Keep.drewN _ _ _
  rw [← hw5]
  have H5 := Lib.hid (And.intro (H4.out.1.keep k5) (And.intro (k5.heap H4.out.2.1 (fun h => h)) (And.intro (k5.heap H4.out.2.2.1 (fun h => h)) (H4.out.2.2.2.1.then k5))))
  clear hw5 k5 e0 e1
  go_wp2_with fail
  refine (peek_c (HT.out _ H5.out.2.2.2) H5.out.1 hms hs).mono ?_
  rintro e w6 ⟨rfl, k6⟩
  have H6 := Lib.hid (And.intro (H5.out.1.keep k6) (And.intro (k6.heap H5.out.2.1 (fun h => h)) (And.intro (k6.heap H5.out.2.2.1 (fun h => h)) (H5.out.2.2.2.then k6))))
  have hR := (rune_ascii (s := s) (k := m) (isStart_lt H0.out.2.2.first)).1
  have HS := Lib.hid (show ∀ x, Calls Tryz.prog 87 #[.int .i32 (runeAt s m)] x fun e w' => e = .returned (.bool true) ∧ w' = x from fun x => by
    have := isStart_c (runeAt s m) x
    rw [hR, H0.out.2.2.first] at this
    rw [hR]
    exact this)
  clear k6 hR
  go_wp2_with fail
  refine (HS.out _).mono ?_
  rintro e w7 ⟨rfl, hw7⟩
  obtain rfl : w6 = w7 := hw7.symm
  clear hw7
  go_wp2_with fail
  refine (scanIdent_c (fun x kx => HT.out x (H6.out.2.2.2.trans kx (fun _ _ h => h) (fun _ _ h => h))) H6.out.1 H0.out.2.2 hs).mono ?_
  rintro e w8 ⟨rfl, hl8, k8⟩
  obtain ⟨T, hTq⟩ : ∃ T, T = s.extract m q := ⟨_, rfl⟩
  rw [← hTq]
  have hs1 := H4.out.2.2.2.2
  have H8 := Lib.hid (And.intro hl8 (And.intro (H6.out.2.2.2.trans k8 (M'' := (· = B)) (fun _ _ h => h) (fun _ _ h => h)) (And.intro hTq (And.intro (k8.heap H6.out.2.1 (show ¬ w3.heap.size = B by omega)) (k8.heap H6.out.2.2.1 (show ¬ w.heap.size = B by omega))))))
  obtain ⟨b, hb⟩ : ∃ b, b = decide (T ∈ kws) := ⟨_, rfl⟩
  have HRs := Lib.hid (show ∀ x, Calls Tryz.prog 89 #[.string T] x fun e w' => e = .returned (.bool b) ∧ Keep NoB x w' from fun x => hb ▸ isReserved_c T x)
  have HB := Lib.hid hb
  clear hl8 k8 hb hTq hs1
  go_wp2_with fail
  refine (HRs.out _).mono ?_
  rintro e w9 ⟨rfl, k9⟩
  have hbT := k9.heap H8.out.2.2.2.2 (fun h => h)
  have hbP := k9.heap H8.out.2.2.2.1 (fun h => h)
  have p0 : w9.cell? ⟨w3.heap.size, 0, none⟩ = some (.string f) ∧ w9.cell? ⟨w3.heap.size, 1, none⟩ = some (.int .i64 l) ∧ w9.cell? ⟨w3.heap.size, 2, none⟩ = some (.int .i64 c) ∧ w9.cell? ⟨w3.heap.size, 3, none⟩ = some (.int .i64 m) := by
    simp [World.cell?, hbP]
  obtain ⟨p0, p1, p2, p3⟩ := p0
  obtain ⟨g0, g1, g2, g3, g4, g5, z0, z1, z2, z3, z4, z5⟩ := tokCells hbT
  have H9 := Lib.hid (And.intro (H8.out.1.keep k9) (And.intro (H8.out.2.1.then k9) hbT))
  clear hbT hbP k9
  cases b
  · go_wp2_with fail
    obtain ⟨wz, hwz⟩ : ∃ wz, wz = (World.setCell (World.setCell (World.setCell (World.setCell (World.setCell (World.setCell w9 ⟨w.heap.size, 0, none⟩ (.int .i64 1)) ⟨w.heap.size, 1, none⟩ (.string f)) ⟨w.heap.size, 2, none⟩ (.int .i64 l)) ⟨w.heap.size, 3, none⟩ (.int .i64 c)) ⟨w.heap.size, 4, none⟩ (.int .i64 m)) ⟨w.heap.size, 5, none⟩ (.string T)) := ⟨_, rfl⟩
    obtain ⟨hz, kz⟩ := tokStored (k := 1) (N := w.heap.size) H9.out.2.2 hwz
    rw [← hwz]
    clear hwz
    obtain ⟨q0, q1, q2, q3, q4, q5, _⟩ := tokCells hz
    refine bodyPost_ret (v := .tuple #[.agg #[.int .i64 1, .string f, .int .i64 l, .int .i64 c, .int .i64 m, .string T], .nilIface]) ?_ rfl ?_
    · simp at q0
      simp [results, Tryz.results63, go_sem, q0, q1, q2, q3, q4, q5, Result.andThen]
    · rw [← H8.out.2.2.1]
      have hk : identKind T = 1 := by unfold identKind; exact if_neg (by simpa using HB.out.symm)
      rw [hk]
      exact ⟨⟨l, c, m, f, rfl⟩, H9.out.1.apart H9.out.2.2 kz (by omega), H9.out.2.1.trans kz (fun _ _ h => h) (fun i hi h => by omega)⟩
  · go_wp2_with fail
    obtain ⟨wz, hwz⟩ : ∃ wz, wz = (World.setCell (World.setCell (World.setCell (World.setCell (World.setCell (World.setCell w9 ⟨w.heap.size, 0, none⟩ (.int .i64 18)) ⟨w.heap.size, 1, none⟩ (.string f)) ⟨w.heap.size, 2, none⟩ (.int .i64 l)) ⟨w.heap.size, 3, none⟩ (.int .i64 c)) ⟨w.heap.size, 4, none⟩ (.int .i64 m)) ⟨w.heap.size, 5, none⟩ (.string T)) := ⟨_, rfl⟩
    obtain ⟨hz, kz⟩ := tokStored (k := 18) (N := w.heap.size) H9.out.2.2 hwz
    rw [← hwz]
    clear hwz
    obtain ⟨q0, q1, q2, q3, q4, q5, _⟩ := tokCells hz
    refine bodyPost_ret (v := .tuple #[.agg #[.int .i64 18, .string f, .int .i64 l, .int .i64 c, .int .i64 m, .string T], .nilIface]) ?_ rfl ?_
    · simp at q0
      simp [results, Tryz.results63, go_sem, q0, q1, q2, q3, q4, q5, Result.andThen]
    · rw [← H8.out.2.2.1]
      have hk : identKind T = 18 := by unfold identKind; exact if_pos (by simpa using HB.out.symm)
      rw [hk]
      exact ⟨⟨l, c, m, f, rfl⟩, H9.out.1.apart H9.out.2.2 kz (by omega), H9.out.2.1.trans kz (fun _ _ h => h) (fun i hi h => by omega)⟩
end Go.Proofs.YtjclpmgfcaadmaaGreatDoor
