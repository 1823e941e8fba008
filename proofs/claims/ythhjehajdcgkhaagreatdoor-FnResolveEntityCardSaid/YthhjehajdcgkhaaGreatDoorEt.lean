/- FnResolveEntity: the walk of the law. -/
import Derived.Test.YthhjehajdcgkhaaGreatDoorEp
import Derived.Test.YthhjehajdcgkhaaGreatDoorEk
import Derived.Test.YthhjehajdcgkhaaGreatDoorShW
import Derived.IntWalk
namespace Go.Proofs.YthhjehajdcgkhaaGreatDoor
open Go.RowKit

theorem ITyIs.keep {w w' : World} {M M' M2 : Nat → Prop} {t : ATy} {v : Value} (h : ITyIs w M t v) (hk : Keep M2 w w') (h2 : ∀ i, i < w.heap.size → M2 i → M i) (h3 : ∀ i, i < w.heap.size → M' i → M i) : ITyIs w' M' t v := by
  induction h with
  | str s e a => exact .str s e a
  | long s e a => exact .long s e a
  | bool s e a => exact .bool s e a
  | ext s e a h => exact .ext s e a h
  | set s b off c a k' s' e' a' hM hc _ ih =>
    have hb : b < w.heap.size := block_lt_of_cell (hc 0 _ rfl)
    exact .set s b off c a k' s' e' a' (fun q => hM (h3 b hb q)) (hc.keep hk fun q => hM (h2 b hb q)) ih
  | @record l s e ao c kf sf ef af hn hL hc _ ih =>
    refine .record s e ao c kf sf ef af hn hL ?_ ih
    rcases hc with h | ⟨b, off, e1, hM, hc⟩
    · exact .inl h
    · cases l with
      | nil => exact .inl rfl
      | cons x l =>
        have hb : b < w.heap.size := block_lt_of_cell (hc 0 x.1 x.2.1 x.2.2 rfl 0 _ rfl)
        exact .inr ⟨b, off, e1, fun q => hM (h3 b hb q), fun i k t q hi => (hc i k t q hi).keep hk fun z => hM (h2 b hb z)⟩
  | ent s e a h => exact .ent s e a h
  | ref s e a h => exact .ref s e a h
/-- One attribute's cells, as it is given. -/
def AttrI (w : World) (M : Nat → Prop) (x : Str × ATy × Bool) (cs : List Value) : Prop := ∃ kk s e al, cs = [.string x.1, .bool x.2.2, .int .i64 kk, .string s, slV e, slV al] ∧ ITyIs w M x.2.1 (tyV kk s e al)
theorem AttrI.keeps : KeepsC AttrI := ⟨fun hk h2 h3 ⟨kk, s, e, al, e1, h⟩ => ⟨kk, s, e, al, e1, h.keep hk h2 h3⟩⟩

theorem cells4 {w : World} {b : Nat} {T : TypeId} {a0 a1 a2 a3 : Value} (h : w.heap[b]? = some (.cells #[a0, a1, a2, a3] T (0, 0))) :
    w.cell? ⟨b, 0, none⟩ = some a0 ∧ w.cell? ⟨b, 1, none⟩ = some a1 ∧ w.cell? ⟨b, 2, none⟩ = some a2 ∧ w.cell? ⟨b, 3, none⟩ = some a3 ∧ w.frozen? ⟨b, 0, none⟩ = false ∧ w.frozen? ⟨b, 1, none⟩ = false ∧ w.frozen? ⟨b, 2, none⟩ = false ∧ w.frozen? ⟨b, 3, none⟩ = false :=
  ⟨by rw [cell_cells h]; rfl, by rw [cell_cells h]; rfl, by rw [cell_cells h]; rfl, by rw [cell_cells h]; rfl, frozen_cells h 0, frozen_cells h 1, frozen_cells h 2, frozen_cells h 3⟩
abbrev etE (v : Value) (tb : Bool) : Obj := .cells #[.string ⟨#[69]⟩, .slice none 0 0, v, .bool tb, .int .i64 2, .string ⟨#[]⟩, .slice none 0 0, .slice none 0 0] 35
/-- The loop: the first j attributes are made. -/
structure EInv (w wr : World) (K : Nat → Nat) (d : Nat) (tb : Bool) (j : Nat) (v : Value) : Prop where
  blk : wr.heap[w.heap.size]? = some (.cells #[.string ⟨#[69]⟩, .slice none 0 0, v, .bool tb, .int .i64 2, .string ⟨#[]⟩, .slice none 0 0, .slice none 0 0] 35 (0, 0))
  row : RowIs AttrI wr (w.heap.size + 1) 32 6 v (atL K d j)
  keep : Keep NoB w wr
/-- The bytes of the argument. -/
def BytesAt (w : World) (K : Nat → Nat) (o : Option Addr) (n : Nat) : Prop := n = 0 ∨ ∃ b off, o = some ⟨b, off, none⟩ ∧ ∀ i, i < n → w.cell? ⟨b, off + i, none⟩ = some (.int .u8 (K i))

theorem ITyIs.mkRecord {w : World} {M : Nat → Prop} {l : List (Str × ATy × Bool)} {s : Sl} (hn : (l.map (·.1)).Nodup) (hL : l.length ≤ 1000000) (h : RowAt AttrI 6 w M l s) (z : Str) (e : Sl) : ITyIs w M (.record l) (tyV 6 z e s) := by
  obtain ⟨ao, n, c⟩ := s
  obtain ⟨h0, h⟩ := h
  replace h0 : n = l.length := h0
  subst h0
  rcases h with rfl | ⟨b, off, e1, hM, h⟩
  · exact .record z e ao c (fun _ => 0) (fun _ => ⟨#[]⟩) (fun _ => (none, 0, 0)) (fun _ => (none, 0, 0)) (by simp) (by simp) (.inl rfl) (fun i k t q h => by simp at h)
  · have h' : ∀ i, ∃ (kk : Int) (s : Str) (e al : Sl), ∀ x, l[i]? = some x → CellsAt w b (off + i * 6) [.string x.1, .bool x.2.2, .int .i64 kk, .string s, slV e, slV al] ∧ ITyIs w M x.2.1 (tyV kk s e al) := by
      intro i
      cases hi : l[i]? with
      | none => exact ⟨0, ⟨#[]⟩, (none, 0, 0), (none, 0, 0), fun x h => by cases h⟩
      | some x =>
        obtain ⟨cs, _, h1, kk, s, e, al, rfl, h2⟩ := h i x hi
        exact ⟨kk, s, e, al, fun y hy => by cases hy; exact ⟨h1, h2⟩⟩
    refine .record z e ao c (fun i => (h' i).choose) (fun i => (h' i).choose_spec.choose) (fun i => (h' i).choose_spec.choose_spec.choose) (fun i => (h' i).choose_spec.choose_spec.choose_spec.choose) hn hL (.inr ⟨b, off, e1, hM, fun i k t q hi => ?_⟩) (fun i k t q hi => ?_)
    · exact ((h' i).choose_spec.choose_spec.choose_spec.choose_spec _ hi).1
    · exact ((h' i).choose_spec.choose_spec.choose_spec.choose_spec _ hi).2

/-! ### behind the loop -/
abbrev peO (tb : Bool) (kk : Int) (s : Sl) : Obj := .cells #[.string ⟨#[69]⟩, .slice none 0 0, .slice s.1 s.2.1 s.2.2, .bool tb, .int .i64 kk, .string ⟨#[]⟩, .slice none 0 0, .slice none 0 0] 35
abbrev peO2 (k : Nat) : Obj := .cells #[.string ⟨#[]⟩, .slice (some ⟨k, 0, none⟩) 1 1, .slice none 0 0, .slice none 0 0, .slice none 0 0] 45
abbrev peW (w : World) (tb : Bool) (kk : Int) (s : Sl) : World := (w.alloc (peO tb kk s)).alloc (peO2 w.heap.size)
/-- the attributes, the tags, where they lie -/
structure PAt (w : World) (P : PEnt) (tb : Bool) (kk : Int) (s : Sl) : Prop where
  row : RowAt AttrI 6 w NoB P.l s
  tg : (tb = false ∧ P.tg = none) ∨ (tb = true ∧ P.tg = some .long ∧ kk = 2)
theorem PAt.keep {w w' : World} {P : PEnt} {tb : Bool} {kk : Int} {s : Sl} (h : PAt w P tb kk s) (k : Keep NoB w w') : PAt w' P tb kk s := ⟨h.row.keep AttrI.keeps (by omega) k (fun _ _ h => h) (fun _ _ h => h), h.tg⟩
theorem PAt.some {w : World} {P : PEnt} {tb : Bool} {kk : Int} {s : Sl} (h : PAt w P tb kk s) : P.tg.isSome = tb := by
  rcases h.tg with ⟨h1, h2⟩ | ⟨h1, h2, _⟩ <;> rw [h1, h2] <;> rfl
theorem pe_ient {w : World} {P : PEnt} {d : Nat} (ok : P.Ok d) {tb : Bool} {kk : Int} {s : Sl} (h : PAt w P tb kk s) : IEntIs w NoB ⟨#[69]⟩ (peE P) (none, 0, 0) s kk ⟨#[]⟩ (none, 0, 0) (none, 0, 0) := by
  refine ⟨rfl, by simp, by simp, ⟨none, 0, rfl, .inl rfl⟩, ITyIs.mkRecord ok.nod (by have := ok.len; show P.l.length ≤ _; omega) h.row _ _, fun t ht => ?_⟩
  rcases h.tg with ⟨_, h2⟩ | ⟨_, h2, rfl⟩
  · rw [show (peE P).tags = P.tg from rfl, h2] at ht; cases ht
  · rw [show (peE P).tags = P.tg from rfl, h2] at ht; cases ht; exact .long _ _ _
theorem pe_row {w : World} {P : PEnt} {d : Nat} (ok : P.Ok d) {tb : Bool} {kk : Int} {s : Sl} (h : PAt w P tb kk s) {b : Nat} (hb : w.heap[b]? = Option.some (peO tb kk s)) : RowAt EntC 8 w NoB (peX P) (Option.some ⟨b, 0, none⟩, 1, 1) := by
  have hi := pe_ient ok h
  refine ⟨rfl, .inr ⟨b, 0, rfl, NoB.not _, fun i x hx => ?_⟩⟩
  rcases i with _ | i
  · simp only [peX, List.getElem?_cons_zero, Option.some.injEq] at hx
    subst hx
    refine ⟨_, rfl, cellsAt_of_block hb, (none, 0, 0), s, kk, ⟨#[]⟩, (none, 0, 0), (none, 0, 0), ?_, ⟨hi.par, fun z e => (ITyIs.mkRecord ok.nod (by have := ok.len; show P.l.length ≤ _; omega) h.row z e).told, fun t ht => (hi.tag t ht).told⟩⟩
    rw [show (peE P).tags = P.tg from rfl, h.some]
  · simp [peX] at hx
theorem pe_all (w : World) {P : PEnt} {d : Nat} (ok : P.Ok d) {tb : Bool} {kk : Int} {s : Sl} (h : PAt w P tb kk s) :
    IAll (peW w tb kk s) NoB (peL P) peD (Option.some ⟨w.heap.size + 1, 0, none⟩) ∧ Keep NoB w (peW w tb kk s) := by
  obtain ⟨O1, hO1⟩ : ∃ O, O = peO tb kk s := ⟨_, rfl⟩
  obtain ⟨O2, hO2⟩ : ∃ O, O = peO2 w.heap.size := ⟨_, rfl⟩
  unfold peW
  rw [← hO1, ← hO2]
  have k1 : Keep NoB w (w.alloc O1) := Keep.alloc _ _ _
  have k2 : Keep NoB (w.alloc O1) ((w.alloc O1).alloc O2) := Keep.alloc _ _ _
  have hb1 := k2.heap (MapKept.heap_alloc w O1).1 (NoB.not _)
  have hb2 := (MapKept.heap_alloc (w.alloc O1) O2).1
  rw [World.size_alloc] at hb2
  have hv := h.keep (k1.then k2)
  refine ⟨?_, k1.then k2⟩
  generalize ((w.alloc O1).alloc O2) = W at *
  clear k1 k2
  subst hO1 hO2
  refine ⟨by simp [peL], by rw [pe_named]; simp, fun S hS hn => ?_, fun S hS => ?_, .inr ⟨_, 0, rfl, fun i S hi => ?_⟩⟩
  · simp only [peL, List.mem_singleton] at hS
    subst hS
    exact (hn rfl).elim
  · simp only [peL, List.mem_singleton] at hS
    subst hS
    show (⟨#[]⟩ : Str).size ≤ _
    decide
  · match i with
    | 0 =>
      simp only [peL, List.getElem?_cons_zero, Option.some.injEq] at hi
      subst hi
      refine ⟨(Option.some ⟨w.heap.size, 0, none⟩, 1, 1), (none, 0, 0), (none, 0, 0), (none, 0, 0), cellsAt_of_block hb2, isp_one (by decide) (pe_ient ok hv) ?_⟩
      rw [show (peE P).tags = P.tg from rfl, hv.some]
      exact cellsAt_of_block hb1
    | i + 1 => simp [peL] at hi
theorem pe_flat {P : PEnt} {d : Nat} (ok : P.Ok d) : ∀ p ∈ peX P, EntFlat p.2 := by
  intro p hp
  simp only [peX, List.mem_singleton] at hp
  subst hp
  have hz := ok.asize
  refine ⟨by simp, by show (⟨#[]⟩ : Str).size ≤ _; decide, fun x hx => (ok.pl x hx).1.flat, ok.srt, ok.nod, by have := ok.len; show P.l.length ≤ _; omega, by show (aKey P.l).size ≤ _; omega, fun t ht => ?_⟩
  have h1 := ok.tag t ht
  have h2 := h1.1.tsize
  have h3 := ok.d
  exact ⟨h1.1.flat, by omega⟩
theorem pe_ksize {P : PEnt} {d : Nat} (ok : P.Ok d) : (catF (entP eK) (peX P)).size ≤ 400000 := by
  have hz := ok.asize
  have h0 := catF_bnd (entP eK) 400000 (peX P) fun x hx => by
    simp only [peX, List.mem_singleton] at hx
    subst hx
    have h1 := frm_size (s := ⟨#[69]⟩) (by decide)
    have h2 : (⟨#[69]⟩ : Str).size = 1 := by decide
    have h3 : (tagS P.tg).size ≤ 300 := by
      cases h : P.tg with
      | none => show (⟨#[]⟩ : Str).size ≤ _; decide
      | some t =>
        have h4 := (ok.tag t h).1.tsize
        have h5 := (ok.tag t h).2
        have h6 := ok.d
        show (tKey t).size ≤ _; omega
    have h7 : (namesK ([] : List Str)).size ≤ 8 := by
      have := frm_size (s := catK []) (by show (⟨#[]⟩ : Str).size < _; decide)
      exact this
    have h8 := frm_size (s := aKey P.l) (by omega)
    have h9 := flagS_size P.tg.isSome
    have h10 : (eK (peE P)).size ≤ 20000 := by
      unfold eK eK0
      rw [ByteArray.size_append, ByteArray.size_append, ByteArray.size_append]
      show (namesK ([] : List Str)).size + (frm (aKey P.l)).size + (flagS P.tg.isSome).size + (tagS P.tg).size ≤ _
      omega
    have h11 := frm_size (s := eK (peE P)) (by omega)
    unfold entP
    rw [ByteArray.size_append]
    show (frm ⟨#[69]⟩).size + (frm (eK (peE P))).size ≤ _
    omega
  have h1 : (peX P).length = 1 := rfl
  rw [h1] at h0; omega
theorem ix0 (w : World) : (Instr.index 50 (.agg #[.string ⟨#[100, 101, 99, 105, 109, 97, 108]⟩, .string ⟨#[100, 97, 116, 101, 116, 105, 109, 101]⟩, .string ⟨#[100, 117, 114, 97, 116, 105, 111, 110]⟩, .string ⟨#[105, 112, 97, 100, 100, 114]⟩]) (.int .u8 0)).run Tryz.prog w = .ok (.string ⟨#[100, 101, 99, 105, 109, 97, 108]⟩) w := by kernel_rfl
theorem ix1 (w : World) : (Instr.index 50 (.agg #[.string ⟨#[100, 101, 99, 105, 109, 97, 108]⟩, .string ⟨#[100, 97, 116, 101, 116, 105, 109, 101]⟩, .string ⟨#[100, 117, 114, 97, 116, 105, 111, 110]⟩, .string ⟨#[105, 112, 97, 100, 100, 114]⟩]) (.int .u8 1)).run Tryz.prog w = .ok (.string ⟨#[100, 97, 116, 101, 116, 105, 109, 101]⟩) w := by kernel_rfl
theorem ix2 (w : World) : (Instr.index 50 (.agg #[.string ⟨#[100, 101, 99, 105, 109, 97, 108]⟩, .string ⟨#[100, 97, 116, 101, 116, 105, 109, 101]⟩, .string ⟨#[100, 117, 114, 97, 116, 105, 111, 110]⟩, .string ⟨#[105, 112, 97, 100, 100, 114]⟩]) (.int .u8 2)).run Tryz.prog w = .ok (.string ⟨#[100, 117, 114, 97, 116, 105, 111, 110]⟩) w := by kernel_rfl
theorem ix3 (w : World) : (Instr.index 50 (.agg #[.string ⟨#[100, 101, 99, 105, 109, 97, 108]⟩, .string ⟨#[100, 97, 116, 101, 116, 105, 109, 101]⟩, .string ⟨#[100, 117, 114, 97, 116, 105, 111, 110]⟩, .string ⟨#[105, 112, 97, 100, 100, 114]⟩]) (.int .u8 3)).run Tryz.prog w = .ok (.string ⟨#[105, 112, 97, 100, 100, 114]⟩) w := by kernel_rfl
theorem ixN (k : Nat) (w : World) : (Instr.index 50 (.agg #[.string ⟨#[100, 101, 99, 105, 109, 97, 108]⟩, .string ⟨#[100, 97, 116, 101, 116, 105, 109, 101]⟩, .string ⟨#[100, 117, 114, 97, 116, 105, 111, 110]⟩, .string ⟨#[105, 112, 97, 100, 100, 114]⟩]) (.int .u8 ((k : Int) % 4))).run Tryz.prog w = .ok (.string (exN k)) w := by
  have hq : k % 4 = 0 ∨ k % 4 = 1 ∨ k % 4 = 2 ∨ k % 4 = 3 := by omega
  unfold exN
  rcases hq with hq | hq | hq | hq
  · rw [show (k : Int) % 4 = 0 by omega, if_pos hq]; exact ix0 w
  · rw [show (k : Int) % 4 = 1 by omega, if_neg (by omega), if_pos hq]; exact ix1 w
  · rw [show (k : Int) % 4 = 2 by omega, if_neg (by omega), if_neg (by omega), if_pos hq]; exact ix2 w
  · rw [show (k : Int) % 4 = 3 by omega, if_neg (by omega), if_neg (by omega), if_neg (by omega)]; exact ix3 w
theorem exN_is (k : Nat) : exN k = ⟨#[100, 101, 99, 105, 109, 97, 108]⟩ ∨ exN k = ⟨#[100, 97, 116, 101, 116, 105, 109, 101]⟩ ∨ exN k = ⟨#[100, 117, 114, 97, 116, 105, 111, 110]⟩ ∨ exN k = ⟨#[105, 112, 97, 100, 100, 114]⟩ := by
  unfold exN
  by_cases h0 : k % 4 = 0
  · rw [if_pos h0]; exact .inl rfl
  · rw [if_neg h0]
    by_cases h1 : k % 4 = 1
    · rw [if_pos h1]; exact .inr (.inl rfl)
    · rw [if_neg h1]
      by_cases h2 : k % 4 = 2
      · rw [if_pos h2]; exact .inr (.inr (.inl rfl))
      · rw [if_neg h2]; exact .inr (.inr (.inr rfl))

set_option maxRecDepth 100000 in
set_option maxHeartbeats 16000000 in
theorem entity_c (K : Nat → Nat) (hK : ∀ i, K i < 256) (o : Option Addr) (n c deep : Nat) (hd : deep < 256) (tb : Bool) (w : World) (hB : BytesAt w K o n) :
    Calls Tryz.prog 4 #[.slice o n c, .int .u8 deep, .bool tb] w fun e w' => e = .returned (.bool true) ∧ Keep NoB w w' := by
  obtain ⟨iU, hiU, hzU, hsU, hbU⟩ := info_parts infoAttr
  have HU := Lib.hid (And.intro hiU (And.intro hzU (And.intro hsU hbU)))
  clear hiU hzU hsU hbU
  have HB := Lib.hid hB
  have HK := Lib.hid hK
  clear hB hK
  go_enter Tryz.func4, Tryz.ntmps4
  by_cases hbig : 2147483647 < n
  · have h1 : (2147483647 : Int) < (n : Int) := by omega
    go_wp2_with fail
    go_ret
    exact ⟨rfl, Keep.refl _ _⟩
  by_cases h30 : 30 < n
  · have h1 : ¬ (2147483647 : Int) < (n : Int) := by omega
    have h2 : (30 : Int) < (n : Int) := by omega
    go_wp2_with fail
    go_ret
    exact ⟨rfl, Keep.refl _ _⟩
  have h1 : ¬ (2147483647 : Int) < (n : Int) := by omega
  have h2 : ¬ (30 : Int) < (n : Int) := by omega
  go_wp2_with fail
  go_loopg [8] n (fun g i wr => ∃ (j : Nat) (v : Value), j + g = n ∧ i = .int .i64 j ∧ EInv w wr K (deep % 21) tb j v)
  case atStart =>
    refine ⟨0, _, by omega, rfl, ⟨(MapKept.heap_alloc w _).1, RowIs.nil _ _ _ _ _, Keep.alloc _ _ _⟩⟩
  case round =>
    obtain ⟨j, v, hj, rfl, hE⟩ := hrel
    have HE := Lib.hid hE
    clear hE
    by_cases hjn : j < n
    · rcases HB.out with h0 | ⟨bv, offv, hso, hcell⟩
      · omega
      subst hso
      have hcv := HE.out.keep.cell (hcell j hjn) (NoB.not _)
      have hk := HK.out j
      obtain ⟨k, hkk⟩ : ∃ k, k = K j := ⟨_, rfl⟩
      rw [← hkk] at hcv hk
      have HC := Lib.hid (And.intro hkk hcell)
      clear hcell hkk
      have hcv2 : ∀ O, (wr.alloc O).cell? ⟨bv, offv + j, none⟩ = some (.int .u8 k) := fun O => (Keep.alloc wr O NoB).cell hcv (NoB.not _)
      go_upto_if 42 with fail
      go_cut [8] from 23 to 76 (fun s8 wx => s8 = .int .i64 j ∧ ∃ kk s, wx.heap[wr.heap.size]? = some (.cells #[.int .i64 kk, .string s, .slice none 0 0, .slice none 0 0] 28 (0, 0)) ∧ ITyIs wx (fun i => i < wr.heap.size + 1) (baseT k) (tyV kk s (none, 0, 0) (none, 0, 0)) ∧ Keep NoB wr wx)
      case first =>
        have hb1 := (MapKept.heap_alloc wr (.cells #[.int .i64 (1 + (k : Int) % 3), .string ⟨#[]⟩, .slice none 0 0, .slice none 0 0] 28)).1
        have HQ := Lib.hid hb1
        clear hb1
        by_cases h4 : 4 ≤ k % 8
        · have hix := ixN k
          obtain ⟨nm, hnm⟩ : ∃ nm, nm = exN k := ⟨_, rfl⟩
          rw [← hnm] at hix
          have HN := Lib.hid hnm
          clear hnm
          go_wp2_with fail
          go_meet
          case rel =>
            refine ⟨rfl, 4, nm, (MapKept.heap_alloc wr _).1, ?_, Keep.alloc _ _ _⟩
            unfold baseT
            rw [if_pos h4, ← HN.out]
            exact .ext _ _ _ (by have := exN_is k; rw [← HN.out] at this; exact this)
        · go_wp2_with fail
          go_meet
          case rel =>
            refine ⟨rfl, 1 + (k : Int) % 3, ⟨#[]⟩, HQ.out, ?_, Keep.alloc _ _ _⟩
            unfold baseT
            rw [if_neg h4]
            have hq : k % 3 = 0 ∨ k % 3 = 1 ∨ k % 3 = 2 := by omega
            rcases hq with hq | hq | hq
            · rw [if_pos hq, show (1 : Int) + (k : Int) % 3 = 1 by omega]; exact .str _ _ _
            · rw [if_neg (by omega), if_pos hq, show (1 : Int) + (k : Int) % 3 = 2 by omega]; exact .long _ _ _
            · rw [if_neg (by omega), if_neg (by omega), show (1 : Int) + (k : Int) % 3 = 3 by omega]; exact .bool _ _ _
      case rest =>
        obtain ⟨rfl, kk, s, hb, hty, hkc⟩ := hcut
        have HD := Lib.hid (And.intro hb (And.intro hty hkc))
        clear hb hty hkc hcv2 hcv
        obtain ⟨wo, hwo⟩ : ∃ x : World, x = wr := ⟨_, rfl⟩
        subst hwo
        obtain ⟨ko, hko⟩ : ∃ x : Nat, x = gk := ⟨_, rfl⟩
        subst hko
        go_wp2_with fail
        go_loopg [10] (deep % 21) (fun g s10 wx => ∃ (q : Nat) (kk : Int) (s : Str) (el al : Sl), q + g = deep % 21 ∧ s10 = .int .i64 q ∧ wx.heap[wo.heap.size]? = some (.cells #[.int .i64 kk, .string s, .slice el.1 el.2.1 el.2.2, .slice al.1 al.2.1 al.2.2] 28 (0, 0)) ∧ ITyIs wx (fun i => i < wo.heap.size + 1) (setT q (baseT k)) (tyV kk s el al) ∧ Keep NoB wo wx)
        case atStart => exact ⟨0, kk, s, (none, 0, 0), (none, 0, 0), by omega, rfl, HD.out⟩
        case round =>
          obtain ⟨q, kk, s, ⟨eo, en, ec⟩, ⟨lo, ln, lc⟩, hq, rfl, hb, hty, hkx⟩ := hrel
          dsimp only at hb
          have HX := Lib.hid (And.intro hb (And.intro hty hkx))
          clear hb hty hkx
          by_cases hqt : q < deep % 21
          · obtain ⟨f0, f1, f2, f3, _⟩ := cells4 HX.out.1
            have kA : Keep NoB wr (wr.alloc (.cells #[.int .i64 kk, .string s, .slice eo en ec, .slice lo ln lc] 28)) := Keep.alloc _ _ _
            have hbA := kA.heap HX.out.1 (NoB.not _)
            have hbN := (MapKept.heap_alloc wr (.cells #[.int .i64 kk, .string s, .slice eo en ec, .slice lo ln lc] 28)).1
            have HN := Lib.hid (And.intro hbA (And.intro hbN kA))
            obtain ⟨g0, g1, g2, g3, z0, z1, z2, z3⟩ := cells4 hbA
            clear kA hbA hbN
            have hqi : (q : Int) < (deep : Int) % 21 := by omega
            go_wp2_with fail
            go_roundg (gk - 1)
            case measure => omega
            case rel =>
              obtain ⟨hbA, hbN, kA⟩ := HN.out
              obtain ⟨hb, hty, hkx⟩ := HX.out
              obtain ⟨wz, hwz, kz, hz, _⟩ := set4 _ _ _ (.int .i64 5) (.string ⟨#[]⟩) (.slice (some ⟨wr.heap.size, 0, none⟩) 1 1) (.slice none 0 0) hbA
              rw [← hwz]
              clear hwz
              have hlt1 := hkx.size
              have hlt2 : wo.heap.size < wr.heap.size := (Array.getElem?_eq_some_iff.1 hb).1
              refine ⟨q + 1, 5, ⟨#[]⟩, (some ⟨wr.heap.size, 0, none⟩, 1, 1), (none, 0, 0), by omega, by go_num, hz, ?_, (hkx.then kA).trans kz (fun _ _ h => h) (fun i hi h => by omega)⟩
              have hbN' := kz.heap hbN (by omega)
              refine .set _ wr.heap.size 0 1 (none, 0, 0) kk s (eo, en, ec) (lo, ln, lc) (by omega) (cellsAt_of_block hbN') ?_
              have h1 := hty.keep (M' := fun i => i < wo.heap.size + 1) kA (fun _ _ h => h.elim) (fun _ _ h => h)
              exact h1.keep kz (fun i hi h => by show i < _; omega) (fun _ _ h => h)
          · have hqd : q = deep % 21 := by omega
            subst hqd
            obtain ⟨oo, oc, hsh⟩ := HE.out.row.shape
            have hjl : (atL K (deep % 21) j).length = j := by simp [atL]
            rw [hjl] at hsh
            subst hsh
            have HQ := Lib.hid (show ∀ x, Keep (fun i => OB (.slice oo j oc) i ∨ i = w.heap.size) wr x → x.cell? ⟨bv, offv + j, none⟩ = some (.int .u8 k) ∧ x.cell? ⟨wo.heap.size, 0, none⟩ = some (.int .i64 kk) ∧ x.cell? ⟨wo.heap.size, 1, none⟩ = some (.string s) ∧ x.cell? ⟨wo.heap.size, 2, none⟩ = some (.slice eo en ec) ∧ x.cell? ⟨wo.heap.size, 3, none⟩ = some (.slice lo ln lc) from fun x kx => by
              have hlt := HE.out.row.lt
              have hwo := (Array.getElem?_eq_some_iff.1 HE.out.blk).1
              have hT1 := kx.heap HX.out.1 (fun h => by
                rcases h with h | h
                · have := (hlt _ h).2; omega
                · omega)
              have hk0 := HC.out.2 j hjn
              have hbv := block_lt_of_cell hk0
              have hk1 := kx.cell ((HE.out.keep.then HX.out.2.2).cell hk0 (NoB.not _)) (fun h => by
                rcases h with h | h
                · have := (hlt _ h).1; omega
                · have h : bv = w.heap.size := h; omega)
              rw [← HC.out.1] at hk1
              obtain ⟨t0, t1, t2, t3, _⟩ := cells4 hT1
              exact ⟨hk1, t0, t1, t2, t3⟩)
            have HQE := Lib.hid (show ∀ x, Keep (OB (.slice oo j oc)) wr x → x.cell? ⟨w.heap.size, 2, none⟩ = some (.slice oo j oc) ∧ x.frozen? ⟨w.heap.size, 2, none⟩ = false ∧ x.heap[w.heap.size]? = some (.cells #[.string ⟨#[69]⟩, .slice none 0 0, .slice oo j oc, .bool tb, .int .i64 2, .string ⟨#[]⟩, .slice none 0 0, .slice none 0 0] 35 (0, 0)) from fun x kx => by
              have hlt := HE.out.row.lt
              have hE1 := kx.heap (HX.out.2.2.heap HE.out.blk (NoB.not _)) (fun h => by have := (hlt _ h).1; omega)
              exact ⟨by rw [cell_cells hE1]; rfl, frozen_cells hE1 2, hE1⟩)
            have HR := Lib.hid (HE.out.row.keep0 AttrI.keeps HX.out.2.2)
            have HZ := Lib.hid (show w.heap.size + 1 ≤ wr.heap.size by
              have h1 := HE.out.blk
              have h2 := (Array.getElem?_eq_some_iff.1 h1).1
              have h3 := HX.out.2.2.size
              omega)
            have HTy := Lib.hid (show ∀ x, Keep NoB wr x → ITyIs x (fun i => OB (.slice oo j oc) i ∨ i < w.heap.size + 1) (setT (deep % 21) (baseT k)) (tyV kk s (eo, en, ec) (lo, ln, lc)) from fun x kx =>
              HX.out.2.1.keep kx (fun _ _ h => h.elim) (fun i hi h => by
                have h1 := HE.out.row.lt
                have h2 := (Array.getElem?_eq_some_iff.1 HE.out.blk).1
                show i < _
                rcases h with h | h
                · have := (h1 i h).2; omega
                · omega))
            have hK0 : Keep NoB wr wr.drew := Keep.drew _ _
            have hdz : (digS j 2).size = 2 := by
              have : (digS j 2).size = (dig j 2).length := rfl
              rw [this, dig2 (by omega)]; rfl
            have hs1 : ¬ 9223372036854775807 < 1 + (digS j 2).size := by omega
            have hwu : IntKind.u64.wrap (j : Int) = (j : Int) := IntWalk.u64_in _ (by omega)
            have hnd : ¬ ((deep % 21 : Nat) : Int) < (deep : Int) % 21 := by omega
            obtain ⟨S, hS⟩ : ∃ S, S = digS j 2 := ⟨_, rfl⟩
            have HD2 := Lib.hid (show ∀ x, Calls Tryz.prog 9 #[.int .u64 j, .int .i64 2] x fun e w' => e = .returned (.string S) ∧ Keep NoB x w' from fun x => by rw [hS]; exact digits_c j 2 (by omega) (by omega) x)
            rw [← hS] at hs1 hdz
            have HS := Lib.hid hS
            clear hS
            go_upto_region 16 with fail
            have c0 := (HQE.out _ (hK0.mono fun _ _ h => h.elim)).1
            obtain ⟨q2, q3, q4, q5, q6⟩ := HQ.out _ (hK0.mono fun _ _ h => h.elim)
            go_region_law
              (first
                | (go_simp; go_at_call 9; refine (HD2.out _).mono ?_; rintro e w4 ⟨rfl, k4⟩; have c4 := (HQE.out _ ((hK0.then k4).mono fun _ _ h => h.elim)).1; have c5 := fun O => (HQE.out (w4.alloc O) (((hK0.then k4).then (Keep.alloc _ _ _)).mono fun _ _ h => h.elim)).1; have c8 := HQ.out _ ((hK0.then k4).mono fun _ _ h => h.elim); obtain ⟨d2, d3, d4, d5, d6⟩ := c8)
                | (obtain ⟨xs, hown, hpush⟩ := ((HR.out.keep0 AttrI.keeps ((Keep.drew _ _).then k4)).keep0 AttrI.keeps (Keep.alloc w4 (.cells #[.string (⟨#[97]⟩ ++ S), .bool (decide ((128 : Int) ≤ (k : Int))), .int .i64 kk, .string s, .slice eo en ec, .slice lo ln lc] 32) NoB)).opened AttrI.keeps
                   refine step_append_lies _ (by rfl) _ _ _ (by rfl) (w.heap.size + 1) 32 iU _ 6 96 Tryz.underlying26 HU.out.1 HU.out.2.1 HU.out.2.2.1 HU.out.2.2.2 rfl (by omega) _ _ xs (by rfl) hown
                     ⟨w4.heap.size, 0, none⟩ 1 1 [.string (⟨#[97]⟩ ++ S), .bool (decide ((128 : Int) ≤ (k : Int))), .int .i64 kk, .string s, .slice eo en ec, .slice lo ln lc] (by rfl) (by rfl) (World.news_of_block (cs := #[.string (⟨#[97]⟩ ++ S), .bool (decide ((128 : Int) ≤ (k : Int))), .int .i64 kk, .string s, .slice eo en ec, .slice lo ln lc]) (t := 32) (fr := (0, 0)) (heap_alloc_new w4 _)) (by simp [Value.oneCell'])
                     (by omega) (by rw [hjl]; unfold maxLen; omega) (by rw [hjl]; omega) (by have h1 := HZ.out; have h2 := k4.size; simp at h2; simp; omega) (w4.heap.size + 1) (by simp) ?_
                   intro gg cap w5 hown5 hgrow hgat hglt
                   obtain ⟨hr5, hk5⟩ := hpush gg cap w5 (⟨#[97]⟩ ++ S, setT (deep % 21) (baseT k), decide ((128 : Int) ≤ (k : Int))) [.string (⟨#[97]⟩ ++ S), .bool (decide ((128 : Int) ≤ (k : Int))), .int .i64 kk, .string s, .slice eo en ec, .slice lo ln lc] rfl
                     ⟨kk, s, (eo, en, ec), (lo, ln, lc), rfl, HTy.out _ (((Keep.drew wr NoB).then k4).then (Keep.alloc _ _ _))⟩ hown5 hgrow (by simpa using hgat)
                   have kk5 := (((Keep.drew wr (OB (.slice oo j oc))).then k4).then (Keep.alloc _ _ _)).trans hk5 (M'' := OB (.slice oo j oc)) (fun _ _ h => h) (fun _ _ h => h)
                   have HX5 := Lib.hid (And.intro kk5 hr5)
                   have c6 := (HQE.out _ kk5).2.1
                   have c7 := (HQE.out _ kk5).1
                   clear hr5 hk5 kk5 hown5 hgrow hgat hglt hown hpush k4))
            all_goals
              clear c0 c4 c5 c6 c7 q2 q3 q4 q5 q6 hK0
              go_wp2_with fail
              go_roundg (ko - 1)
              case measure => omega
              case rel =>
                obtain ⟨kk5, hr5⟩ := HX5.out
                have hE5 := (HQE.out _ kk5).2.2
                have kst : Keep (· = w.heap.size) w5 (w5.setCell ⟨w.heap.size, 2, none⟩ (.slice (some ⟨gg, 0, none⟩) (j + 1) cap)) := Keep.setCell _ _ _ (fun _ => rfl)
                refine ⟨j + 1, .slice (some ⟨gg, 0, none⟩) (j + 1) cap, by omega, by go_num, setCell_cells hE5 2 _, ?_, ?_⟩
                · rw [atL_snoc, show aNm j = ⟨#[97]⟩ ++ S by rw [HS.out]; rfl, ← HC.out.1, show decide (128 ≤ k) = decide ((128 : Int) ≤ (k : Int)) from decide_eq_decide.2 (by omega)]
                  have h1 := hr5.keep AttrI.keeps kst (fun i h => by omega)
                  rw [hjl] at h1
                  exact h1
                · have hlt := HE.out.row.lt
                  exact (((HE.out.keep.then HX.out.2.2).trans kk5 (M'' := NoB) (fun _ _ h => h) (fun i hi h => by have := (hlt i h).1; omega)).trans kst (fun _ _ h => h) (fun i hi h => by omega))
    · have hjn2 : j = n := by omega
      obtain ⟨P, hP⟩ : ∃ P, P = PEnt.mk (atL K (deep % 21) n) (if tb then some .long else none) := ⟨_, rfl⟩
      have ok : P.Ok 30 := by
        rw [hP]
        exact atL_ok K _ (by omega) (by omega) _ (by cases tb <;> simp)
      have hPl : P.l = atL K (deep % 21) j := by rw [hP, hjn2]
      have hPt : P.tg = if tb then some .long else none := by rw [hP]
      have hrow := HE.out.row
      rw [← hPl] at hrow
      obtain ⟨⟨so, sl, sc⟩, hsv, hat⟩ := hrow.at AttrI.keeps (M := fun i => i = w.heap.size) (fun i h => by omega)
      dsimp only [slV] at hsv
      subst hsv
      have HP := Lib.hid (And.intro hP (And.intro ok (And.intro hPt hat)))
      have hblk := HE.out.blk
      obtain ⟨e0, e1, e2, e3, e4, e5, e6, e7, z0, z1, z2, z3, z4, z5, z6, z7⟩ := cells8 hblk
      have HB2 := Lib.hid hblk
      clear hP ok hPl hPt hrow hat hblk
      subst hjn2
      go_upto_if 78 with fail
      go_cut [] (fun wx => ∃ kk : Int, PAt wx P tb kk (so, sl, sc) ∧ wx.heap[w.heap.size]? = some (peO tb kk (so, sl, sc)) ∧ Keep NoB w wx)
      case first =>
        cases tb
        · go_wp2_with fail
          go_meet
          case rel =>
            obtain ⟨wz, hwz, kz, hz⟩ := set47 _ _ _ (.int .i64 0) (.string ⟨#[]⟩) (.slice none 0 0) (.slice none 0 0) HB2.out
            rw [← hwz]
            exact ⟨0, ⟨HP.out.2.2.2.keep AttrI.keeps (by omega) kz (fun i hi h => h) (fun _ _ h => h.elim), .inl ⟨rfl, HP.out.2.2.1⟩⟩, hz, HE.out.keep.trans kz (fun _ _ h => h) (fun i hi h => by omega)⟩
        · go_wp2_with fail
          go_meet
          case rel => exact ⟨2, ⟨HP.out.2.2.2.keep AttrI.keeps (by omega) (Keep.refl NoB _) (fun _ _ h => h.elim) (fun _ _ h => h.elim), .inr ⟨rfl, HP.out.2.2.1, rfl⟩⟩, HB2.out, HE.out.keep⟩
      case rest =>
        obtain ⟨kk, hpat, hblk, hkc⟩ := hcut
        have HC := Lib.hid (And.intro hpat (And.intro hblk hkc))
        clear e0 e1 e2 e3 e4 e5 e6 e7 z0 z1 z2 z3 z4 z5 z6 z7
        obtain ⟨e0, e1, e2, e3, e4, e5, e6, e7, z0, z1, z2, z3, z4, z5, z6, z7⟩ := cells8 hblk
        have hall := pe_all wc HP.out.2.1 hpat
        have HI := Lib.hid (And.intro (implResolve_c _ NoB (peL P) peD (some ⟨wc.heap.size + 1, 0, none⟩) 1 hall.1 30 (pe_ok HP.out.2.1) _ (Keep.refl _ _)) hall.2)
        clear hall hpat hblk hkc
        go_wp2_with fail
        refine HI.out.1.mono ?_
        intro e w4 hpost
        obtain ⟨sE, sN, sA, rfl, hrE, hrN, hA0, k4⟩ := pe_post HP.out.2.1 hpost
        obtain ⟨ro, rl, rc⟩ := sE
        obtain ⟨ro2, rl2, rc2⟩ := sN
        obtain ⟨ro3, rl3, rc3⟩ := sA
        dsimp only at hA0
        subst hA0
        have HR := Lib.hid (And.intro hrE (And.intro hrN k4))
        clear hpost hrE hrN k4 e0 e1 e2 e3 e4 e5 e6 e7 z0 z1 z2 z3 z4 z5 z6 z7
        obtain ⟨key, hkey⟩ : ∃ key, key = rK eK (peX P) [] := ⟨_, rfl⟩
        obtain ⟨wq, hwq⟩ : ∃ wq, wq = w4.alloc (.cells #[.slice ro rl rc, .slice ro2 rl2 rc2, .slice ro3 0 rc3] 40) := ⟨_, rfl⟩
        have k4q : Keep NoB w4 wq := hwq ▸ Keep.alloc _ _ _
        have hbr : wq.heap[w4.heap.size]? = some (.cells #[.slice ro rl rc, .slice ro2 rl2 rc2, .slice ro3 0 rc3] 40 (0, 0)) := hwq ▸ (MapKept.heap_alloc w4 _).1
        have kcq : Keep NoB wc wq := (HI.out.2.then HR.out.2.2).then k4q
        have HQ := Lib.hid (show ∀ x, Keep NoB wq x → x.cell? ⟨w4.heap.size, 0, none⟩ = some (.slice ro rl rc) ∧ x.cell? ⟨w4.heap.size, 1, none⟩ = some (.slice ro2 rl2 rc2) ∧ x.cell? ⟨w4.heap.size, 2, none⟩ = some (.slice ro3 0 rc3) ∧
            x.cell? ⟨w.heap.size, 0, none⟩ = some (.string ⟨#[69]⟩) ∧ x.cell? ⟨w.heap.size, 1, none⟩ = some (.slice none 0 0) ∧ x.cell? ⟨w.heap.size, 2, none⟩ = some (.slice so sl sc) ∧ x.cell? ⟨w.heap.size, 3, none⟩ = some (.bool tb) ∧ x.cell? ⟨w.heap.size, 4, none⟩ = some (.int .i64 kk) ∧ x.cell? ⟨w.heap.size, 5, none⟩ = some (.string ⟨#[]⟩) ∧ x.cell? ⟨w.heap.size, 6, none⟩ = some (.slice none 0 0) ∧ x.cell? ⟨w.heap.size, 7, none⟩ = some (.slice none 0 0) from fun x kx => by
          have h1 := kx.heap hbr (NoB.not _)
          have h2 := (kcq.then kx).heap HC.out.2.1 (NoB.not _)
          obtain ⟨e0, e1, e2, e3, e4, e5, e6, e7, _⟩ := cells8 h2
          exact ⟨by rw [cell_cells h1]; rfl, by rw [cell_cells h1]; rfl, by rw [cell_cells h1]; rfl, e0, e1, e2, e3, e4, e5, e6, e7⟩)
        have HK2 := Lib.hid (show ∀ x a, Keep NoB wq x → (a = .agg #[.slice ro rl rc, .slice ro2 rl2 rc2, .slice ro3 0 rc3] ∨ ∃ nb, a = .agg #[.slice (some ⟨nb, 0, none⟩) 1 1, .slice none 0 0, .slice none 0 0] ∧ x.heap[nb]? = some (peO tb kk (so, sl, sc))) → Calls Tryz.prog 12 #[a] x fun e w' => e = .returned (.string key) ∧ Keep NoB x w' from fun x a kx ha => by
          rw [hkey]
          have hkz := pe_ksize HP.out.2.1
          rcases ha with rfl | ⟨nb, rfl, hb⟩
          · exact resolvedKey_c w4 _ eK (peX P) [] ro ro2 ro3 rl rl2 rc rc2 rc3 HR.out.1 HR.out.2.1 (entKeys (pe_flat HP.out.2.1)) (by simp [peX]) (by simp) (fun p hp => by simp at hp) hkz (by show (⟨#[]⟩ : Str).size ≤ _; decide) x (k4q.then kx)
          · exact resolvedKey_c x NoB eK (peX P) [] _ none none 1 0 1 0 0 (pe_row HP.out.2.1 (HC.out.1.keep (kcq.then kx)) hb) ⟨rfl, .inl rfl⟩ (entKeys (pe_flat HP.out.2.1)) (by simp [peX]) (by simp) (fun p hp => by simp at hp) hkz (by show (⟨#[]⟩ : Str).size ≤ _; decide) x (Keep.refl _ _))
        have HKQ := Lib.hid (HC.out.2.2.then kcq)
        clear hkey k4q hbr kcq
        go_upto_region 20 with fail
        rw [← hwq]
        clear hwq
        have hK0 : Keep NoB wq wq.drew := Keep.drew _ _
        obtain ⟨q0, q1, q2, e0, e1, e2, e3, e4, e5, e6, e7⟩ := HQ.out _ hK0
        go_region_held3 (fun x => Keep NoB wq x ∧ x.cell? ⟨w4.heap.size, 0, none⟩ = some (.slice ro rl rc) ∧ x.cell? ⟨w4.heap.size, 1, none⟩ = some (.slice ro2 rl2 rc2) ∧ x.cell? ⟨w4.heap.size, 2, none⟩ = some (.slice ro3 0 rc3) ∧
            x.cell? ⟨w.heap.size, 0, none⟩ = some (.string ⟨#[69]⟩) ∧ x.cell? ⟨w.heap.size, 1, none⟩ = some (.slice none 0 0) ∧ x.cell? ⟨w.heap.size, 2, none⟩ = some (.slice so sl sc) ∧ x.cell? ⟨w.heap.size, 3, none⟩ = some (.bool tb) ∧ x.cell? ⟨w.heap.size, 4, none⟩ = some (.int .i64 kk) ∧ x.cell? ⟨w.heap.size, 5, none⟩ = some (.string ⟨#[]⟩) ∧ x.cell? ⟨w.heap.size, 6, none⟩ = some (.slice none 0 0) ∧ x.cell? ⟨w.heap.size, 7, none⟩ = some (.slice none 0 0))
          (with_reducible (first
            | exact ⟨kwA, HQ.out _ kwA⟩
            | exact ⟨(kwA.then (Keep.alloc _ _ _)), HQ.out _ (kwA.then (Keep.alloc _ _ _))⟩
            | exact ⟨(hK0.then (Keep.alloc _ _ _)), HQ.out _ (hK0.then (Keep.alloc _ _ _))⟩
            | exact ⟨hK0, HQ.out _ hK0⟩
            | assumption))
          ((go_at_call 12
            refine (HK2.out _ _ (by go_split_ands; assumption) (by first | exact .inl rfl | exact .inr ⟨_, rfl, (MapKept.heap_alloc _ _).1⟩ | exact .inr ⟨_, rfl, hd⟩)).mono ?_
            rintro e w5 ⟨rfl, k5⟩
            have kwA : Keep NoB wq w5 := Keep.then (by go_split_ands; assumption) k5
            (first | (with_reducible have hd := heap_alloc1 k5) | (with_reducible have hd := heap_alloc2 k5) | (with_reducible have hd := heap_again k5 hd) | skip)))
        all_goals
          have KZ := Lib.hid (HKQ.out.then kwA)
          clear q0 q1 q2 e0 e1 e2 e3 e4 e5 e6 e7 hK0
          go_wp2_with fail
          go_ret
          exact ⟨rfl, KZ.out⟩
end Go.Proofs.YthhjehajdcgkhaaGreatDoor
