/- A text of one declaration, from the parser's door to the schema's. -/
import Derived.Test.YtjclpmgfcaadmaaGreatDoorSkC
import Derived.Test.YtjclpmgfcaadmaaGreatDoorLxK
import Derived.Lib.ConvBytes
namespace Go.Proofs.YtjclpmgfcaadmaaGreatDoor
open Go.RowKit Go.Shelf

def kwOf (b : Bool) : Str := if b then ⟨#[101, 110, 116, 105, 116, 121]⟩ else ⟨#[116, 121, 112, 101]⟩
def DeclOk (b : Bool) (s t : Str) (p0 : Nat) : Prop := if b then EntText s t p0 else (ComText s t p0 ∧ t ∉ resTypes)
def astB (b : Bool) (m : Nat) : Obj := if b then astO (some m) none none none none else astO none none none (some m) none
def valB (b : Bool) : Value := if b then entV else comV
/-- The syntax tree of one declaration at block C. -/
def AstOk (b : Bool) (t : Str) (L C : Nat) (w : World) : Prop := ∃ m, L ≤ m ∧ w.heap[C]? = some (astB b m) ∧ KMap Value.string w m [(t, valB b)]
theorem AstOk.keep {b : Bool} {t : Str} {L L' C : Nat} {w w' : World} {M : Nat → Prop} (h : AstOk b t L C w) (k : Keep M w w') (hC : ¬ M C) (hM : ∀ i, L ≤ i → ¬ M i) (hL : L' ≤ L) : AstOk b t L' C w' := by
  obtain ⟨m, hm, h1, h2⟩ := h
  exact ⟨m, Nat.le_trans hL hm, k.heap h1 hC, h2.keep k (hM m hm)⟩
theorem pSchemaOk_c {b : Bool} {w0 w : World} {A B : Nat} {o : Option Addr} {bb cap : Nat} {s : ByteArray} {p : Nat} {t : ByteArray} (h : PIs w0 w A B o bb cap s p 1 (kwOf b)) (hx : DeclOk b s t p) :
    Calls Tryz.prog 47 #[.pointer (some ⟨A, 0, none⟩)] w fun e w' => ∃ C, e = .returned (.tuple #[.pointer (some ⟨C, 0, none⟩), .nilIface]) ∧ w.heap.size ≤ C ∧ AstOk b t w.heap.size C w' ∧ Keep (AB A B) w w' := by
  cases b
  · refine (pSchemaCom_c h hx.1 hx.2).mono ?_
    rintro e w' ⟨C, rfl, hC, m, hm, h1, h2, k⟩
    exact ⟨C, rfl, hC, ⟨m, hm, h1, h2⟩, k⟩
  · refine (pSchemaEnt_c h hx).mono ?_
    rintro e w' ⟨C, rfl, hC, m, hm, h1, h2, k⟩
    exact ⟨C, rfl, hC, ⟨m, hm, h1, h2⟩, k⟩
/-- Where a text comes in. -/
structure SrcIs (w : World) (o : Option Addr) (bb cap : Nat) (s : ByteArray) : Prop where
  tabs : Tabs w
  src : s.size = 0 ∨ (o = some ⟨bb, 0, none⟩ ∧ ∀ j, j < s.size → w.cell? ⟨bb, j, none⟩ = some (.int .u8 (at8 s j)))
  cap : s.size ≤ cap
  short : s.size ≤ 3000
theorem SrcIs.start {w w1 w2 : World} {o : Option Addr} {bb cap : Nat} {s f : ByteArray} (h : SrcIs w o bb cap s) (k1 : Keep NoB w w1) (hb1 : w1.heap[w.heap.size]? = some (lexO o s.size cap 0 1 1 f)) (hz1 : w1.heap.size = w.heap.size + 1) (k2 : Keep NoB w1 w2)
    (hA : w2.heap[w1.heap.size]? = some (parO w.heap.size 0 ⟨#[]⟩ 0 0 0 ⟨#[]⟩)) : PIs w w2 w1.heap.size w.heap.size o bb cap s 0 0 ⟨#[]⟩ := by
  refine ⟨⟨⟨#[]⟩, 0, 0, 0, hA⟩, ⟨⟨1, 1, f, k2.heap hb1 (fun h => h)⟩, ?_, h.cap⟩, k1.then k2, h.tabs, by omega, Nat.le_refl _, by omega, h.short⟩
  rcases h.src with h0 | ⟨e, hj⟩
  · exact .inl h0
  rcases Nat.eq_zero_or_pos s.size with h0 | h0
  · exact .inl h0
  have := block_lt_of_cell (hj 0 h0)
  dsimp only at this
  exact .inr ⟨e, by omega, fun j h => (k1.then k2).cell (hj j h) (fun h => h)⟩
set_option maxRecDepth 100000 in
set_option maxHeartbeats 4000000 in
theorem pFileOk_c {b : Bool} {w : World} {bb cap : Nat} {o : Option Addr} {s f t : ByteArray} {q : Nat} (h : SrcIs w o bb cap s) (hn : NextIs s 0 1 (kwOf b) q) (hx : DeclOk b s t q) :
    Calls Tryz.prog 22 #[.string f, .slice o s.size cap] w fun e w' => ∃ C, e = .returned (.tuple #[.pointer (some ⟨C, 0, none⟩), .nilIface]) ∧ w.heap.size ≤ C ∧ AstOk b t w.heap.size C w' ∧ Keep NoB w w' := by
  have HH := Lib.hid (And.intro h (And.intro hn hx))
  obtain ⟨KW, hKW⟩ : ∃ K : Str, K = (kwOf b) := ⟨_, rfl⟩
  have HKW := Lib.hid hKW
  clear h hn hx hKW
  go_enter Tryz.func22, Tryz.ntmps22
  go_wp2_with fail
  refine (newLexer_c f o s.size cap w).mono ?_
  rintro e w1 ⟨rfl, hw1⟩
  have k1 : Keep NoB w w1 := hw1 ▸ Keep.alloc _ _ _
  have hb1 : w1.heap[w.heap.size]? = some (lexO o s.size cap 0 1 1 f) := hw1 ▸ (MapKept.heap_alloc _ _).1
  have hz1 : w1.heap.size = w.heap.size + 1 := by rw [hw1, World.size_alloc]
  have H1 := Lib.hid (And.intro k1 (And.intro hb1 hz1))
  clear hw1 k1 hb1 hz1
  go_wp2_with fail
  obtain ⟨w2, hw2⟩ : ∃ x, x = w1.alloc (.cells #[.pointer (some ⟨w.heap.size, 0, none⟩), .int .i64 0, .string ⟨#[]⟩, .int .i64 0, .int .i64 0, .int .i64 0, .string ⟨#[]⟩] 146) := ⟨_, rfl⟩
  have k2 : Keep NoB w1 w2 := hw2 ▸ Keep.alloc _ _ _
  have hA : w2.heap[w1.heap.size]? = some (parO w.heap.size 0 ⟨#[]⟩ 0 0 0 ⟨#[]⟩) := hw2 ▸ (MapKept.heap_alloc _ _).1
  rw [← hw2]
  clear hw2
  obtain ⟨k1, hb1, hz1⟩ := H1.out
  have hp := HH.out.1.start k1 hb1 hz1 k2 hA
  have HR := Lib.hid (readTok_c hp HH.out.2.1)
  have H2 := Lib.hid (And.intro (k1.then k2) (And.intro hz1 hp.keep.size))
  clear k1 hb1 hz1 hA k2 hp
  refine HR.out.mono ?_
  rintro e w3 ⟨rfl, h3, k3⟩
  have HP := Lib.hid (pSchemaOk_c h3 HH.out.2.2)
  have k03 : Keep NoB w w3 := H2.out.1.trans k3 (fun _ _ h => h) (fun i hi h => by have := H2.out.2.1; rcases h with h | h <;> omega)
  have H3 := Lib.hid k03
  clear h3 k3 k03
  go_wp2_with fail
  refine HP.out.mono ?_
  rintro e w4 ⟨C, rfl, hC, ha, k4⟩
  have H4 := Lib.hid (And.intro hC (And.intro ha k4))
  clear hC ha k4
  go_wp2_with fail
  go_ret2
  obtain ⟨hC, ha, k4⟩ := H4.out
  have hz := H3.out.size
  exact ⟨C, rfl, by omega, ha.keep (Keep.refl NoB _) (fun h => h) (fun _ _ h => h) hz, H3.out.trans k4 (fun _ _ h => h) (fun i hi h => by have := H2.out.2.1; rcases h with h | h <;> omega)⟩

set_option maxRecDepth 100000 in
set_option maxHeartbeats 4000000 in
theorem pFileNo_c {w : World} {bb cap : Nat} {o : Option Addr} {s f t : ByteArray} {q : Nat} (h : SrcIs w o bb cap s) (hn : NextIs s 0 1 (kwOf false) q) (hx : ComText s t q ∧ t ∈ resTypes) :
    Calls Tryz.prog 22 #[.string f, .slice o s.size cap] w fun e w' => (∃ a, e = .returned (.tuple #[.pointer none, .iface 249 (.pointer (some a))])) ∧ Keep NoB w w' := by
  have HH := Lib.hid (And.intro h (And.intro hn hx))
  obtain ⟨KW, hKW⟩ : ∃ K : Str, K = (kwOf false) := ⟨_, rfl⟩
  have HKW := Lib.hid hKW
  clear h hn hx hKW
  go_enter Tryz.func22, Tryz.ntmps22
  go_wp2_with fail
  refine (newLexer_c f o s.size cap w).mono ?_
  rintro e w1 ⟨rfl, hw1⟩
  have k1 : Keep NoB w w1 := hw1 ▸ Keep.alloc _ _ _
  have hb1 : w1.heap[w.heap.size]? = some (lexO o s.size cap 0 1 1 f) := hw1 ▸ (MapKept.heap_alloc _ _).1
  have hz1 : w1.heap.size = w.heap.size + 1 := by rw [hw1, World.size_alloc]
  have H1 := Lib.hid (And.intro k1 (And.intro hb1 hz1))
  clear hw1 k1 hb1 hz1
  go_wp2_with fail
  obtain ⟨w2, hw2⟩ : ∃ x, x = w1.alloc (.cells #[.pointer (some ⟨w.heap.size, 0, none⟩), .int .i64 0, .string ⟨#[]⟩, .int .i64 0, .int .i64 0, .int .i64 0, .string ⟨#[]⟩] 146) := ⟨_, rfl⟩
  have k2 : Keep NoB w1 w2 := hw2 ▸ Keep.alloc _ _ _
  have hA : w2.heap[w1.heap.size]? = some (parO w.heap.size 0 ⟨#[]⟩ 0 0 0 ⟨#[]⟩) := hw2 ▸ (MapKept.heap_alloc _ _).1
  rw [← hw2]
  clear hw2
  obtain ⟨k1, hb1, hz1⟩ := H1.out
  have hp := HH.out.1.start k1 hb1 hz1 k2 hA
  have HR := Lib.hid (readTok_c hp HH.out.2.1)
  have H2 := Lib.hid (And.intro (k1.then k2) (And.intro hz1 hp.keep.size))
  clear k1 hb1 hz1 hA k2 hp
  refine HR.out.mono ?_
  rintro e w3 ⟨rfl, h3, k3⟩
  have HP := Lib.hid (pSchemaNo_c h3 HH.out.2.2.1 HH.out.2.2.2)
  have k03 : Keep NoB w w3 := H2.out.1.trans k3 (fun _ _ h => h) (fun i hi h => by have := H2.out.2.1; rcases h with h | h <;> omega)
  have H3 := Lib.hid k03
  clear h3 k3 k03
  go_wp2_with fail
  refine HP.out.mono ?_
  rintro e w4 ⟨⟨a, rfl⟩, k4⟩
  have H4 := Lib.hid k4
  clear k4
  go_wp2_with fail
  go_ret2
  exact ⟨⟨_, rfl⟩, H3.out.trans H4.out (fun _ _ h => h) (fun i hi h => by have := H2.out.2.1; rcases h with h | h <;> omega)⟩

end Go.Proofs.YtjclpmgfcaadmaaGreatDoor
