/- FnSchemaBlank: ParseSchema of the parser, UnmarshalCedar, AST on a blank text. -/
import Derived.Test.YtjclpmgfcaadmaaGreatDoorBlH
namespace Go.Proofs.YtjclpmgfcaadmaaGreatDoor
open Go.RowKit Go.Shelf

abbrev emptyAst : Obj := .cells #[.map none, .map none, .map none, .map none, .map none] 63 (0, 0)
set_option maxRecDepth 100000 in
set_option maxHeartbeats 4000000 in
theorem pParseSchema_c {w : World} {bb cap : Nat} {o : Option Addr} {s f : ByteArray} (hT : Tabs w) (hsrc : s.size = 0 ∨ (o = some ⟨bb, 0, none⟩ ∧ ∀ j, j < s.size → w.cell? ⟨bb, j, none⟩ = some (.int .u8 (at8 s j)))) (hcap : s.size ≤ cap) (hbl : Bl s 0) (hs : s.size ≤ 3000) :
    Calls Tryz.prog 22 #[.string f, .slice o s.size cap] w fun e w' => (∃ b, e = .returned (.tuple #[.pointer (some ⟨b, 0, none⟩), .nilIface]) ∧ w.heap.size ≤ b ∧ w'.heap[b]? = some emptyAst) ∧ Keep NoB w w' := by
  have HH := Lib.hid (And.intro hT (And.intro hsrc (And.intro hcap hbl)))
  clear hT hsrc hcap hbl
  go_enter Tryz.func22, Tryz.ntmps22
  go_wp2_with fail
  refine (newLexer_c f o s.size cap w).mono ?_
  rintro e w1 ⟨rfl, hw1⟩
  have k1 : Keep NoB w w1 := hw1 ▸ Keep.alloc _ _ _
  have hb1 : w1.heap[w.heap.size]? = some (lexO o s.size cap 0 1 1 f) := hw1 ▸ (MapKept.heap_alloc _ _).1
  have hz1 : w1.heap.size = w.heap.size + 1 := by rw [hw1, World.size_alloc]
  have H1 := Lib.hid (And.intro k1 (And.intro hb1 hz1))
  clear hw1 k1 hb1 hz1
  go_wp2_with fail
  obtain ⟨w2, hw2⟩ : ∃ x, x = w1.alloc (.cells #[.pointer (some ⟨w.heap.size, 0, none⟩), .int .i64 0, .string ⟨#[]⟩, .int .i64 0, .int .i64 0, .int .i64 0, .string ⟨#[]⟩] 146) := ⟨_, rfl⟩
  have k2 : Keep NoB w1 w2 := hw2 ▸ Keep.alloc _ _ _
  have hA : w2.heap[w1.heap.size]? = some (.cells #[.pointer (some ⟨w.heap.size, 0, none⟩), .int .i64 0, .string ⟨#[]⟩, .int .i64 0, .int .i64 0, .int .i64 0, .string ⟨#[]⟩] 146 (0, 0)) := hw2 ▸ (MapKept.heap_alloc _ _).1
  rw [← hw2]
  clear hw2
  obtain ⟨k1, hb1, hz1⟩ := H1.out
  obtain ⟨hT, hsrc, hcap, hbl⟩ := HH.out
  have hb2 := k2.heap hb1 (fun h => h)
  have kB : ∀ x, Keep (fun i => i = w1.heap.size ∨ i = w.heap.size) w2 x → Keep NoB w x := fun x k => (k1.then k2).trans k (fun _ _ h => h) (fun i hi h => by omega)
  have hl2 : LexIs w2 w.heap.size o bb cap s 0 := by
    refine ⟨⟨1, 1, f, hb2⟩, ?_, hcap⟩
    rcases hsrc with h0 | ⟨e, hj⟩
    · exact .inl h0
    rcases Nat.eq_zero_or_pos s.size with h0 | h0
    · exact .inl h0
    have := block_lt_of_cell (hj 0 h0)
    dsimp only at this
    exact .inr ⟨e, by omega, fun j h => (k1.then k2).cell (hj j h) (fun h => h)⟩
  have HR := Lib.hid (readToken_c (w := w2) (A := w1.heap.size) (fun x k => hT.keep (kB x (k.mono fun _ _ h => .inr h))) (by have := k2.size; omega) (by omega) hA hl2 hbl hs)
  have HB := Lib.hid (And.intro kB (k1.then k2).size)
  clear k1 hb1 hz1 hT hsrc hcap hbl hb2 kB hl2 hA k2
  refine HR.out.mono ?_
  rintro e w3 ⟨rfl, hc, k3⟩
  have H3 := Lib.hid (And.intro hc k3)
  clear hc k3
  go_wp2_with fail
  refine (pParse_c H3.out.1).mono ?_
  rintro e w4 ⟨rfl, hw4⟩
  have k4 : Keep NoB w3 w4 := hw4 ▸ Keep.alloc _ _ _
  have hb4 : w4.heap[w3.heap.size]? = some emptyAst := hw4 ▸ (MapKept.heap_alloc _ _).1
  have H4 := Lib.hid (And.intro k4 hb4)
  clear hw4 k4 hb4
  go_wp2_with fail
  go_ret2
  exact ⟨⟨_, rfl, Nat.le_trans HB.out.2 H3.out.2.size, H4.out.2⟩, (HB.out.1 _ H3.out.2).then H4.out.1⟩
end Go.Proofs.YtjclpmgfcaadmaaGreatDoor
