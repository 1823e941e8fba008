/- The schema's parser in memory; it reads a token. -/
import Derived.Test.YtjclpmgfcaadmaaGreatDoorLxD
namespace Go.Proofs.YtjclpmgfcaadmaaGreatDoor
open Go.RowKit Go.Shelf

/-- the signs of one letter, and their kinds -/
inductive SymIs : Nat → ByteArray → Nat → Prop
  | at : SymIs 64 ⟨#[64]⟩ 3
  | lbrace : SymIs 123 ⟨#[123]⟩ 4
  | rbrace : SymIs 125 ⟨#[125]⟩ 5
  | lbrack : SymIs 91 ⟨#[91]⟩ 6
  | rbrack : SymIs 93 ⟨#[93]⟩ 7
  | lang : SymIs 60 ⟨#[60]⟩ 8
  | rang : SymIs 62 ⟨#[62]⟩ 9
  | lpar : SymIs 40 ⟨#[40]⟩ 10
  | rpar : SymIs 41 ⟨#[41]⟩ 11
  | comma : SymIs 44 ⟨#[44]⟩ 12
  | semi : SymIs 59 ⟨#[59]⟩ 13
  | quest : SymIs 63 ⟨#[63]⟩ 16
  | equals : SymIs 61 ⟨#[61]⟩ 17
/-- from p on the next token is of kind k with text t, and ends at q -/
inductive NextIs (s : ByteArray) : Nat → Nat → ByteArray → Nat → Prop
  | eof (p m : Nat) : Sk s p m → s.size = m → NextIs s p 0 ⟨#[]⟩ m
  | ident (p m q : Nat) : Sk s p m → Idn s m q → NextIs s p (identKind (s.extract m q)) (s.extract m q) q
  | sym (p m c k : Nat) (t : ByteArray) : Sk s p m → m < s.size → at8 s m = c → SymIs c t k → NextIs s p k t (m + 1)
  | dcol (p m : Nat) : Sk s p m → m < s.size → at8 s m = 58 → m + 1 < s.size → at8 s (m + 1) = 58 → NextIs s p 15 ⟨#[58, 58]⟩ (m + 1 + 1)
theorem nextIs_c {w : World} {B : Nat} {o : Option Addr} {bb cap : Nat} {s : ByteArray} {p k q : Nat} {t : ByteArray} (hT : ∀ x, Keep (· = B) w x → Tabs x) (hB : B < w.heap.size) (h : LexIs w B o bb cap s p) (hn : NextIs s p k t q) (hs : s.size ≤ 3000) :
    Calls Tryz.prog 63 #[.pointer (some ⟨B, 0, none⟩)] w (TokOut B o bb cap s w k t q) := by
  cases hn with
  | eof _ h1 h2 => exact nextEof_c hT hB h h1 h2 hs
  | ident m _ h1 h2 => exact nextIdent_c hT hB h h1 h2 hs
  | sym m c _ _ h1 h2 h3 h4 =>
    cases h4 with
    | «at» => exact nextSym64_c hT hB h h1 h2 h3 hs
    | lbrace => exact nextSym123_c hT hB h h1 h2 h3 hs
    | rbrace => exact nextSym125_c hT hB h h1 h2 h3 hs
    | lbrack => exact nextSym91_c hT hB h h1 h2 h3 hs
    | rbrack => exact nextSym93_c hT hB h h1 h2 h3 hs
    | lang => exact nextSym60_c hT hB h h1 h2 h3 hs
    | rang => exact nextSym62_c hT hB h h1 h2 h3 hs
    | lpar => exact nextSym40_c hT hB h h1 h2 h3 hs
    | rpar => exact nextSym41_c hT hB h h1 h2 h3 hs
    | comma => exact nextSym44_c hT hB h h1 h2 h3 hs
    | semi => exact nextSym59_c hT hB h h1 h2 h3 hs
    | quest => exact nextSym63_c hT hB h h1 h2 h3 hs
    | equals => exact nextSym61_c hT hB h h1 h2 h3 hs
  | dcol m h1 h2 h3 h4 h5 => exact nextDcol_c hT hB h h1 h2 h3 h4 h5 hs

abbrev parO (B k : Nat) (f : ByteArray) (l c p : Int) (t : ByteArray) : Obj := .cells #[.pointer (some ⟨B, 0, none⟩), .int .i64 k, .string f, .int .i64 l, .int .i64 c, .int .i64 p, .string t] 146 (0, 0)
/-- The parser at block A; its lexer at block B has come to place p; the token at hand is of kind k with text t. -/
structure PIs (w0 w : World) (A B : Nat) (o : Option Addr) (bb cap : Nat) (s : ByteArray) (p k : Nat) (t : ByteArray) : Prop where
  blk : ∃ f l c q, w.heap[A]? = some (parO B k f l c q t)
  lex : LexIs w B o bb cap s p
  keep : Keep NoB w0 w
  tabs : Tabs w0
  geA : w0.heap.size ≤ A
  geB : w0.heap.size ≤ B
  ne : A ≠ B
  short : s.size ≤ 3000
abbrev AB (A B : Nat) : Nat → Prop := fun i => i = A ∨ i = B
theorem LexIs.other {w w' : World} {B : Nat} {o : Option Addr} {bb cap : Nat} {s : ByteArray} {pos : Nat} {M : Nat → Prop} (h : LexIs w B o bb cap s pos) (hk : Keep M w w') (hB : ¬ M B) (hbb : s.size = 0 ∨ ¬ M bb) : LexIs w' B o bb cap s pos := by
  obtain ⟨⟨l2, c2, f2, hb2⟩, hs, hc⟩ := h
  refine ⟨⟨l2, c2, f2, hk.heap hb2 hB⟩, ?_, hc⟩
  rcases hbb with h0 | hbb
  · exact .inl h0
  · exact hs.imp id fun ⟨e, hB2, hj⟩ => ⟨e, hB2, fun j h => hk.cell (hj j h) hbb⟩
theorem PIs.ltA {w0 w : World} {A B : Nat} {o : Option Addr} {bb cap : Nat} {s : ByteArray} {p k : Nat} {t : ByteArray} (h : PIs w0 w A B o bb cap s p k t) : A < w.heap.size := by
  obtain ⟨f, l, c, q, hb⟩ := h.blk
  exact (Array.getElem?_eq_some_iff.1 hb).1
theorem PIs.ltB {w0 w : World} {A B : Nat} {o : Option Addr} {bb cap : Nat} {s : ByteArray} {p k : Nat} {t : ByteArray} (h : PIs w0 w A B o bb cap s p k t) : B < w.heap.size := by
  obtain ⟨l, c, f, hb⟩ := h.lex.blk
  exact (Array.getElem?_eq_some_iff.1 hb).1
/-- what other blocks turn -/
theorem PIs.other {w0 w w' : World} {A B : Nat} {o : Option Addr} {bb cap : Nat} {s : ByteArray} {p k : Nat} {t : ByteArray} {M : Nat → Prop} (h : PIs w0 w A B o bb cap s p k t) (hk : Keep M w w') (hA : ¬ M A) (hB : ¬ M B) (hbb : s.size = 0 ∨ ¬ M bb) (hM : ∀ i, i < w0.heap.size → ¬ M i) : PIs w0 w' A B o bb cap s p k t := by
  obtain ⟨⟨f, l, c, q, hb⟩, ⟨⟨l2, c2, f2, hb2⟩, hs, hc⟩, hkp, ht, gA, gB, hne, hsh⟩ := h
  refine ⟨⟨f, l, c, q, hk.heap hb hA⟩, ⟨⟨l2, c2, f2, hk.heap hb2 hB⟩, ?_, hc⟩, hkp.trans hk (fun _ _ h => h) (fun i hi h => (hM i hi h).elim), ht, gA, gB, hne, hsh⟩
  rcases hbb with h0 | hbb
  · exact .inl h0
  · exact hs.imp id fun ⟨e, hB2, hj⟩ => ⟨e, hB2, fun j h => hk.cell (hj j h) hbb⟩
theorem PIs.keep0 {w0 w w' : World} {A B : Nat} {o : Option Addr} {bb cap : Nat} {s : ByteArray} {p k : Nat} {t : ByteArray} (h : PIs w0 w A B o bb cap s p k t) (hk : Keep NoB w w') : PIs w0 w' A B o bb cap s p k t :=
  h.other hk (fun h => h) (fun h => h) (.inr fun h => h) (fun _ _ h => h)
theorem PIs.src_ne {w0 w : World} {A B : Nat} {o : Option Addr} {bb cap : Nat} {s : ByteArray} {p k : Nat} {t : ByteArray} (h : PIs w0 w A B o bb cap s p k t) : s.size = 0 ∨ bb ≠ A := by
  rcases h.lex.src with h0 | ⟨_, _, hj⟩
  · exact .inl h0
  · rcases Nat.eq_zero_or_pos s.size with h0 | h0
    · exact .inl h0
    · refine .inr fun e => ?_
      subst e
      obtain ⟨f, l, c, q, hb⟩ := h.blk
      have := hj 0 h0
      simp [World.cell?, hb] at this

set_option maxRecDepth 100000 in
set_option maxHeartbeats 4000000 in
theorem readTok_c {w0 w : World} {A B : Nat} {o : Option Addr} {bb cap : Nat} {s : ByteArray} {p k k' q : Nat} {t t' : ByteArray} (h : PIs w0 w A B o bb cap s p k t) (hn : NextIs s p k' t' q) :
    Calls Tryz.prog 46 #[.pointer (some ⟨A, 0, none⟩)] w fun e w' => e = .returned .nilIface ∧ PIs w0 w' A B o bb cap s q k' t' ∧ Keep (AB A B) w w' := by
  have HN := Lib.hid (nextIs_c (fun x kx => h.tabs.keep (h.keep.trans kx (fun _ _ h => h) (fun i hi e => by have := h.geB; omega))) h.ltB h.lex hn h.short)
  obtain ⟨f0, l0, c0, q0, hA⟩ := h.blk
  have e0 : w.cell? ⟨A, 0, none⟩ = some (.pointer (some ⟨B, 0, none⟩)) := by simp [World.cell?, hA]
  have HA := Lib.hid (And.intro hA h)
  clear h hA hn
  go_enter Tryz.func46, Tryz.ntmps46
  go_wp2_with fail
  refine HN.out.mono ?_
  rintro e w1 ⟨⟨l, c, p, f, rfl⟩, hl1, k1⟩
  have hA1 := k1.heap HA.out.1 HA.out.2.ne
  have H1 := Lib.hid (And.intro hA1 (And.intro hl1 k1))
  have hlt : A < w1.heap.size := (Array.getElem?_eq_some_iff.1 hA1).1
  have g0 : w1.cell? ⟨A, 1, none⟩ = some (.int .i64 k) ∧ w1.cell? ⟨A, 2, none⟩ = some (.string f0) ∧ w1.cell? ⟨A, 3, none⟩ = some (.int .i64 l0) ∧ w1.cell? ⟨A, 4, none⟩ = some (.int .i64 c0) ∧ w1.cell? ⟨A, 5, none⟩ = some (.int .i64 q0) ∧ w1.cell? ⟨A, 6, none⟩ = some (.string t) ∧
      w1.frozen? ⟨A, 1, none⟩ = false ∧ w1.frozen? ⟨A, 2, none⟩ = false ∧ w1.frozen? ⟨A, 3, none⟩ = false ∧ w1.frozen? ⟨A, 4, none⟩ = false ∧ w1.frozen? ⟨A, 5, none⟩ = false ∧ w1.frozen? ⟨A, 6, none⟩ = false := by
    simp [World.cell?, World.frozen?, hA1]
  obtain ⟨g1, g2, g3, g4, g5, g6, z1, z2, z3, z4, z5, z6⟩ := g0
  clear hA1 k1 hl1
  go_wp2_with fail
  go_ret
  have kst : ∀ (u : World) (i : Nat) (v : Value), Keep (· = A) w1 u → Keep (· = A) w1 (u.setCell ⟨A, i, none⟩ v) := fun u i v k => k.trans (Keep.setCell (M := (· = A)) _ _ _ (fun _ => rfl)) (fun _ _ h => h) (fun _ _ h => h)
  obtain ⟨hA1, hl1, k1⟩ := H1.out
  have hh := (setCell_lex (setCell_lex (setCell_lex (setCell_lex (setCell_lex (setCell_lex hA1 1 (.int .i64 k')) 2 (.string f)) 3 (.int .i64 l)) 4 (.int .i64 c)) 5 (.int .i64 p)) 6 (.string t'))
  have kA := kst _ 6 (.string t') (kst _ 5 (.int .i64 p) (kst _ 4 (.int .i64 c) (kst _ 3 (.int .i64 l) (kst _ 2 (.string f) (kst _ 1 (.int .i64 k') (Keep.refl (· = A) w1))))))
  have h0 := HA.out.2
  refine ⟨rfl, ⟨⟨f, l, c, p, (Keep.alloc _ _ NoB).heap hh (fun h => h)⟩, (hl1.other kA (fun e => h0.ne e.symm) h0.src_ne).keep (Keep.alloc _ _ NoB), ?_, h0.tabs, h0.geA, h0.geB, h0.ne, h0.short⟩, (k1.trans kA (M'' := AB A B) (fun _ _ h => .inr h) (fun _ _ h => .inl h)).then (Keep.alloc _ _ NoB)⟩
  exact ((h0.keep.trans (k1.trans kA (M'' := AB A B) (fun _ _ h => .inr h) (fun _ _ h => .inl h)) (M'' := NoB) (fun _ _ h => h) (fun i hi h => by have := h0.geA; have := h0.geB; rcases h with h | h <;> omega)).then (Keep.alloc _ _ NoB))
end Go.Proofs.YtjclpmgfcaadmaaGreatDoor
