/- FnResolveChain: the walk of the law. -/
import Derived.Test.YthhjehajdcgkhaaGreatDoorChP
import Derived.Test.YthhjehajdcgkhaaGreatDoorShW
import Derived.Test.YthhjehajdcgkhaaGreatDoorKey
import Derived.IntWalk
import Derived.Deep.RegionHeld3
import Derived.Deep.AppendLies
namespace Go.Proofs.YthhjehajdcgkhaaGreatDoor
open Go.RowKit

theorem ITyIs.keep {w w' : World} {M M' M2 : Nat → Prop} {t : ATy} {v : Value} (h : ITyIs w M t v) (hk : Keep M2 w w') (h2 : ∀ i, i < w.heap.size → M2 i → M i) (h3 : ∀ i, i < w.heap.size → M' i → M i) : ITyIs w' M' t v := by
  induction h with
  | str s e a => exact .str s e a
  | long s e a => exact .long s e a
  | bool s e a => exact .bool s e a
  | ext s e a h => exact .ext s e a h
  | set s b off c a k' s' e' a' hM hc _ ih =>
    have hb : b < w.heap.size := block_lt_of_cell (hc 0 _ rfl)
    exact .set s b off c a k' s' e' a' (fun q => hM (h3 b hb q)) (hc.keep hk fun q => hM (h2 b hb q)) ih
  | @record l s e ao c kf sf ef af hn hL hc _ ih =>
    refine .record s e ao c kf sf ef af hn hL ?_ ih
    rcases hc with h | ⟨b, off, e1, hM, hc⟩
    · exact .inl h
    · cases l with
      | nil => exact .inl rfl
      | cons x l =>
        have hb : b < w.heap.size := block_lt_of_cell (hc 0 x.1 x.2.1 x.2.2 rfl 0 _ rfl)
        exact .inr ⟨b, off, e1, fun q => hM (h3 b hb q), fun i k t q hi => (hc i k t q hi).keep hk fun z => hM (h2 b hb z)⟩
  | ent s e a h => exact .ent s e a h
  | ref s e a h => exact .ref s e a h
theorem cells4 {w : World} {b : Nat} {T : TypeId} {a0 a1 a2 a3 : Value} (h : w.heap[b]? = some (.cells #[a0, a1, a2, a3] T (0, 0))) :
    w.cell? ⟨b, 0, none⟩ = some a0 ∧ w.cell? ⟨b, 1, none⟩ = some a1 ∧ w.cell? ⟨b, 2, none⟩ = some a2 ∧ w.cell? ⟨b, 3, none⟩ = some a3 ∧ w.frozen? ⟨b, 0, none⟩ = false ∧ w.frozen? ⟨b, 1, none⟩ = false ∧ w.frozen? ⟨b, 2, none⟩ = false ∧ w.frozen? ⟨b, 3, none⟩ = false :=
  ⟨by rw [cell_cells h]; rfl, by rw [cell_cells h]; rfl, by rw [cell_cells h]; rfl, by rw [cell_cells h]; rfl, frozen_cells h 0, frozen_cells h 1, frozen_cells h 2, frozen_cells h 3⟩

/-- A row that is opened once, for all worlds that come behind. -/
theorem RowIs.opened2 {α : Type} {R : World → (Nat → Prop) → α → List Value → Prop} {w : World} {base : Nat} {E : TypeId} {size : Nat} {v : Value} {l : List α} (hR : KeepsC R) (h : RowIs R w base E size v l) : ∃ xs : List Value, ∀ W, Keep NoB w W → W.ownsRow base E size v l.length xs ∧
    ∀ (g cap : Nat) (w' : World) (x : α) (cs : List Value), cs.length = size → R W (fun i => OB v i ∨ i < base) x cs → w'.ownsRow base E size (.slice (some ⟨g, 0, none⟩) (l.length + 1) cap) (l.length + 1) (xs ++ cs) → W.grownBy w' v.ownBlock → (v.ownBlock = some g ∨ g = W.heap.size) →
      RowIs R w' base E size (.slice (some ⟨g, 0, none⟩) (l.length + 1) cap) (l ++ [x]) ∧ Keep (OB v) W w' := by
  obtain ⟨xss, h1, h2, h3⟩ := h
  refine ⟨xss.flatten, fun W kW => ?_⟩
  have h3 := h3.keep kW fun i _ hm => hm.elim
  have h2 : ∀ (i : Nat) (x : α), l[i]? = some x → ∃ cs, xss[i]? = some cs ∧ cs.length = size ∧ R W (fun i => OB v i ∨ i < base) x cs := fun i x hx => by
    obtain ⟨cs, a, b, c⟩ := h2 i x hx
    exact ⟨cs, a, b, hR.k kW (fun i _ hi => hi.elim) (fun _ _ h => h) c⟩
  refine ⟨h3, fun g cap w' x cs hcs hx hown hg hat => ?_⟩
  obtain ⟨v', hv'⟩ : ∃ v' : Value, v' = .slice (some ⟨g, 0, none⟩) (l.length + 1) cap := ⟨_, rfl⟩
  have hat' : v'.ownBlock = v.ownBlock ∨ v'.ownBlock = some W.heap.size := by
    rw [hv']
    rcases hat with h | h
    · exact .inl h.symm
    · exact .inr (by rw [h]; rfl)
  rw [← hv'] at hown ⊢
  clear hv' hat
  have kg : Keep (OB v) W w' := Keep.grown hg fun i hi _ => hi
  have hM : ∀ i, i < W.heap.size → (OB v' i ∨ i < base) → (OB v i ∨ i < base) := fun i hi h => by
    rcases h with h | h
    · rcases hat' with e | e
      · exact .inl (by unfold OB at *; rw [← e]; exact h)
      · unfold OB at h; rw [e] at h; cases h; omega
    · exact .inr h
  refine ⟨⟨xss ++ [cs], by simp [h1], fun i y hy => ?_, ?_⟩, kg⟩
  · rcases Nat.lt_or_ge i l.length with hi | hi
    · rw [List.getElem?_append_left hi] at hy
      obtain ⟨c, a, b, d⟩ := h2 i y hy
      exact ⟨c, by rw [List.getElem?_append_left (by omega)]; exact a, b, hR.k kg (fun _ _ h => .inl h) hM d⟩
    · rw [List.getElem?_append_right hi] at hy
      have hi0 : i - l.length = 0 := by
        rcases Nat.eq_zero_or_pos (i - l.length) with e | e
        · exact e
        · rw [List.getElem?_eq_none (by simp; omega)] at hy; cases hy
      rw [hi0] at hy
      simp only [List.getElem?_cons_zero, Option.some.injEq] at hy
      subst hy
      refine ⟨cs, by rw [List.getElem?_append_right (by omega), show i - xss.length = 0 by omega]; rfl, hcs, hR.k kg (fun _ _ h => .inl h) hM hx⟩
  · rw [List.flatten_append, List.length_append]
    simpa using hown

/-- One common type's cells, as it is given. -/
def ComI (w : World) (M : Nat → Prop) (x : Str × ATy) (cs : List Value) : Prop := ∃ k s e al, cs = [.string x.1, .int .i64 k, .string s, slV e, slV al] ∧ ITyIs w M x.2 (tyV k s e al)
theorem ComI.keeps : KeepsC ComI := ⟨fun hk h2 h3 ⟨k, s, e, al, e1, h⟩ => ⟨k, s, e, al, e1, h.keep hk h2 h3⟩⟩
theorem infoCommon : (Tryz.prog.info? 30).map (fun i => (i.zero, i.size, i.bytes)) = some (some (.agg #[.string ⟨#[]⟩, .int .i64 0, .string ⟨#[]⟩, .slice none 0 0, .slice none 0 0]), 5, 88) := by kernel_rfl
theorem chC_snoc (n : Nat) (tg : Option Nat) (j : Nat) : chC n tg (j + 1) = chC n tg j ++ [(tN j, chT n tg j)] := by
  unfold chC; rw [List.range_succ, List.map_append]; rfl
theorem chC_len (n : Nat) (tg : Option Nat) (j : Nat) : (chC n tg j).length = j := by unfold chC; simp

/-! ### behind the loop -/
theorem ComRow.keep {w w' : World} {cs : List (Str × ATy)} {sc : Sl} (h : ComRow w cs sc) (k : Keep NoB w w') : ComRow w' cs sc := by
  refine ⟨h.clen, h.cL, h.cnod, h.csz, h.com.imp id fun ⟨b, off, e, hc⟩ => ⟨b, off, e, fun i nm t hi => ?_⟩⟩
  obtain ⟨kk, s, el, al, h1, h2⟩ := hc i nm t hi
  exact ⟨kk, s, el, al, h1.keep k (NoB.not _), h2.keep k (fun _ _ h => h) (fun _ _ h => h)⟩
theorem ComRow.ofRow {w : World} {base n : Nat} {tg : Option Nat} (hn : n ≤ 50) {v : Value} (h : RowIs ComI w base 30 5 v (chC n tg n)) : ∃ oo oc, v = .slice oo n oc ∧ ComRow w (chC n tg n) (oo, n, oc) := by
  obtain ⟨ov, c, rfl, ho⟩ := h.over ComI.keeps
  rw [chC_len]
  refine ⟨ov, c, rfl, (chC_len n tg n).symm, by rw [chC_len]; omega, chC_nodup hn n (Nat.le_refl _), fun p hp => ?_, ho.imp id fun ⟨b, e, _, hc⟩ => ⟨b, 0, e, fun i nm t hi => ?_⟩⟩
  · obtain ⟨k, hk, rfl⟩ := List.mem_map.1 hp
    have := tN_size k (by have := List.mem_range.1 hk; omega)
    show (tN k).size ≤ _; omega
  · obtain ⟨cs, _, h1, k, s, el, al, rfl, h2⟩ := hc i (nm, t) hi
    exact ⟨k, s, el, al, h1, h2.keep (Keep.refl NoB _) (fun _ _ h => h.elim) (fun _ _ h => h.elim)⟩
abbrev chO4 (n : Nat) (sc : Sl) : Obj := .cells #[.string ⟨#[78]⟩, .slice (some ⟨n + 1 + 1, 0, none⟩) 1 1, .slice none 0 0, .slice none 0 0, .slice sc.1 sc.2.1 sc.2.2] 45
abbrev chW (w : World) (sc : Sl) : World := (((w.alloc (shO1 ⟨#[84, 48]⟩)).alloc (shO2 ⟨#[69]⟩ w.heap.size)).alloc (shO2 ⟨#[69]⟩ w.heap.size)).alloc (chO4 w.heap.size sc)
theorem ch_all (w : World) {n : Nat} {tg : Option Nat} {sc : Sl} (hc : ComRow w (chC n tg n) sc) :
    IAll (chW w sc) NoB (chL n tg) (chD n tg) (some ⟨w.heap.size + 1 + 1 + 1, 0, none⟩) ∧ Keep NoB w (chW w sc) := by
  obtain ⟨O1, hO1⟩ : ∃ O, O = shO1 ⟨#[84, 48]⟩ := ⟨_, rfl⟩
  obtain ⟨O2, hO2⟩ : ∃ O, O = shO2 ⟨#[69]⟩ w.heap.size := ⟨_, rfl⟩
  obtain ⟨O5, hO5⟩ : ∃ O, O = chO4 w.heap.size sc := ⟨_, rfl⟩
  unfold chW
  rw [← hO1, ← hO2, ← hO5]
  have k1 : Keep NoB w (w.alloc O1) := Keep.alloc _ _ _
  have k2 : Keep NoB (w.alloc O1) ((w.alloc O1).alloc O2) := Keep.alloc _ _ _
  have k3 : Keep NoB ((w.alloc O1).alloc O2) (((w.alloc O1).alloc O2).alloc O2) := Keep.alloc _ _ _
  have k4 : Keep NoB (((w.alloc O1).alloc O2).alloc O2) ((((w.alloc O1).alloc O2).alloc O2).alloc O5) := Keep.alloc _ _ _
  have hb1 := ((k2.then k3).then k4).heap (MapKept.heap_alloc w O1).1 (NoB.not _)
  have hb3 := k4.heap (MapKept.heap_alloc ((w.alloc O1).alloc O2) O2).1 (NoB.not _)
  have hb4 := (MapKept.heap_alloc (((w.alloc O1).alloc O2).alloc O2) O5).1
  simp only [World.size_alloc] at hb3 hb4
  have kk := ((k1.then k2).then k3).then k4
  refine ⟨?_, kk⟩
  have hc' := hc.keep kk
  generalize ((((w.alloc O1).alloc O2).alloc O2).alloc O5) = W at *
  clear k1 k2 k3 k4 kk
  subst hO1 hO2 hO5
  refine ⟨by simp [chL], by rw [ch_named]; simp, fun S hS hn => ?_, fun S hS => ?_, .inr ⟨_, 0, rfl, fun i S hi => ?_⟩⟩
  · simp only [chL, List.mem_singleton] at hS
    subst hS
    rfl
  · simp only [chL, List.mem_singleton] at hS
    subst hS
    show (⟨#[78]⟩ : Str).size ≤ _; decide
  · match i with
    | 0 =>
      simp only [chL, List.getElem?_cons_zero, Option.some.injEq] at hi
      subst hi
      exact ⟨(some ⟨w.heap.size + 1 + 1, 0, none⟩, 1, 1), (none, 0, 0), (none, 0, 0), sc, cellsAt_of_block hb4, isp_oneC (by decide) (ient_ref ⟨#[69]⟩ ⟨#[84, 48]⟩ (by decide) (cellsAt_of_block hb1)) (cellsAt_of_block hb3) hc'⟩
    | i + 1 => simp [chL] at hi
theorem att1 {w : World} {M : Nat → Prop} {k : Str} {t : ATy} {q : Bool} {ats : Sl} (h : OTyIs w M (.record [(k, t, q)]) (tyV 6 ⟨#[]⟩ (none, 0, 0) ats)) :
    ∃ b off c kk s el al, ats = (some ⟨b, off, none⟩, 1, c) ∧ CellsAt w b off [.string k, .bool q, .int .i64 kk, .string s, slV el, slV al] ∧ OTyIs w M t (tyV kk s el al) := by
  generalize hv : tyV 6 ⟨#[]⟩ (none, 0, 0) ats = v at h
  cases h with
  | record s' e ao c kf sf ef af hc ht =>
    simp only [Value.agg.injEq, Array.mk.injEq, List.cons.injEq, Value.slice.injEq, and_true, true_and, List.length_cons, List.length_nil] at hv
    obtain ⟨_, _, h3, h4, h5⟩ := hv
    rcases hc with hc | ⟨b, off, e1, _, hc⟩
    · cases hc
    · have h1 := hc 0 k t q rfl
      have h2 := ht 0 k t q rfl
      obtain ⟨a0, a1, a2⟩ := ats
      dsimp only at h3 h4 h5
      exact ⟨b, off, c, kf 0, sf 0, ef 0, af 0, by rw [h3, h4, h5, e1], by simpa using h1, h2⟩
theorem set_of {w : World} {M : Nat → Prop} {t : ATy} {kk : Int} {s : Str} {el al : Sl} (h : OTyIs w M (.set t) (tyV kk s el al)) :
    kk = 5 ∧ ∃ b off c k' s' e' a', el = (some ⟨b, off, none⟩, 1, c) ∧ ¬ M b ∧ CellsAt w b off [.int .i64 k', .string s', slV e', slV a'] ∧ OTyIs w M t (tyV k' s' e' a') := by
  generalize hv : tyV kk s el al = v at h
  cases h with
  | set s2 b off c a k' s' e' a' hM hc ht =>
    simp only [Value.agg.injEq, Array.mk.injEq, List.cons.injEq, Value.int.injEq, Value.string.injEq, Value.slice.injEq, and_true, true_and] at hv
    obtain ⟨rfl, _, ⟨h3, h4, h5⟩, _⟩ := hv
    obtain ⟨a0, a1, a2⟩ := el
    dsimp only at h3 h4 h5
    exact ⟨rfl, b, off, c, k', s', e', a', by rw [h3, h4, h5], hM, hc, ht⟩
theorem long_of {w : World} {M : Nat → Prop} {kk : Int} {s : Str} {el al : Sl} (h : OTyIs w M .long (tyV kk s el al)) : kk = 2 := by
  generalize hv : tyV kk s el al = v at h
  cases h with
  | long s2 e a =>
    simp only [Value.agg.injEq, Array.mk.injEq, List.cons.injEq, Value.int.injEq, true_and] at hv
    exact hv.1

set_option maxRecDepth 100000 in
set_option maxHeartbeats 16000000 in
theorem chain_c (a b : Nat) (ha : a < 256) (hb : b < 256) (cir : Bool) (w : World) :
    Calls Tryz.prog 3 #[.int .u8 a, .int .u8 b, .bool cir] w fun e w' => e = .returned (.bool true) ∧ Keep NoB w w' := by
  obtain ⟨iU, hiU, hzU, hsU, hbU⟩ := info_parts infoCommon
  have HU := Lib.hid (And.intro hiU (And.intro hzU (And.intro hsU hbU)))
  clear hiU hzU hsU hbU
  obtain ⟨n, hn⟩ : ∃ n, n = 1 + a % 50 := ⟨_, rfl⟩
  have hni : (1 : Int) + (a : Int) % 50 = (n : Int) := by omega
  have hn50 : n ≤ 50 := by omega
  have hn0 : 0 < n := by omega
  obtain ⟨tg, htg⟩ : ∃ tg : Option Nat, tg = if cir then some (b % n) else none := ⟨_, rfl⟩
  have HT := Lib.hid htg
  clear htg hn
  go_enter Tryz.func3, Tryz.ntmps3
  go_wp2_with fail
  go_loopg [8, 9] n (fun g s8 s9 wr => ∃ j : Nat, j + g = n ∧ s9 = .int .i64 j ∧ RowIs ComI wr w.heap.size 30 5 s8 (chC n tg j) ∧ Keep NoB w wr)
  case atStart => exact ⟨0, by omega, rfl, RowIs.nil _ _ _ _ _, Keep.refl _ _⟩
  case round =>
    obtain ⟨j, hj, rfl, hrow, hk⟩ := hrel
    obtain ⟨oo, oc, hsh⟩ := hrow.shape
    rw [chC_len] at hsh
    subst hsh
    have HE := Lib.hid (And.intro hrow hk)
    clear hrow hk
    by_cases hjn : j < n
    · have hw1 : wrap64 ((j : Int) + 1) = (j : Int) + 1 := by unfold wrap64; omega
      have hw2 : IntKind.u64.wrap ((j : Int) + 1) = (j : Int) + 1 := IntWalk.u64_in _ (by omega)
      have HD1 := Lib.hid (show ∀ x, Calls Tryz.prog 9 #[.int .u64 ((j : Int) + 1), .int .i64 1] x fun e w' => e = .returned (.string (digS (j + 1) 1)) ∧ Keep NoB x w' from fun x => by
        have := digits_c (j + 1) 1 (by omega) (by omega) x
        rwa [show (((j + 1 : Nat) : Int)) = (j : Int) + 1 by omega] at this)
      go_wp2_with fail
      refine (HD1.out _).mono ?_
      rintro e w2 ⟨rfl, k2⟩
      have HK2 := Lib.hid k2
      clear k2
      have hz1 : (digS (j + 1) 1).size ≤ 7 := digS_short (by omega)
      go_upto_if 35 with fail
      go_cut [8, 9] from 21 to 56 (fun s8 s9 wx => s8 = .slice oo j oc ∧ s9 = .int .i64 j ∧ wx.heap[w2.heap.size]? = some (.cells #[.int .i64 8, .string (if j + 1 = n then lastN tg else tN (j + 1)), .slice none 0 0, .slice none 0 0] 28 (0, 0)) ∧ Keep NoB wr wx)
      case first =>
        by_cases hl : j + 1 = n
        · have hl1 : ((j : Int) == (n : Int) - 1) = true := by rw [beq_iff_eq]; omega
          obtain ⟨V, hV⟩ : ∃ V : World, V = w2.alloc (.cells #[.int .i64 8, .string ((⟨#[84]⟩ : Str) ++ digS (j + 1) 1), .slice none 0 0, .slice none 0 0] 28) := ⟨_, rfl⟩
          have hbV : V.heap[w2.heap.size]? = some (.cells #[.int .i64 8, .string ((⟨#[84]⟩ : Str) ++ digS (j + 1) 1), .slice none 0 0, .slice none 0 0] 28 (0, 0)) := hV ▸ (MapKept.heap_alloc w2 _).1
          have HVK := Lib.hid (hV ▸ (HK2.out.then (Keep.alloc w2 (.cells #[.int .i64 8, .string ((⟨#[84]⟩ : Str) ++ digS (j + 1) 1), .slice none 0 0, .slice none 0 0] 28) NoB)) : Keep NoB wr V)
          have hsV := HK2.out.size
          rw [← hV]
          obtain ⟨f0, f1, f2, f3, z0, z1, z2, z3⟩ := cells4 hbV
          have HBV := Lib.hid hbV
          clear hV hbV f0 f2 f3 z0 z2 z3
          cases cir
          · go_wp2_with fail
            go_meet
            case rel =>
              refine ⟨rfl, rfl, ?_, keepLate HVK.out hsV⟩
              rw [if_pos hl, HT.out, if_neg (by decide)]
              exact setCell_cells HBV.out 1 _
          · have hbn : b % n < n := Nat.mod_lt _ hn0
            have hw3 : IntKind.u64.wrap ((b : Int) % (n : Int)) = (b : Int) % (n : Int) := IntWalk.u64_in _ (by omega)
            have HD2 := Lib.hid (show ∀ x, Calls Tryz.prog 9 #[.int .u64 ((b : Int) % (n : Int)), .int .i64 1] x fun e w' => e = .returned (.string (digS (b % n) 1)) ∧ Keep NoB x w' from fun x => by
              have := digits_c (b % n) 1 (by omega) (by omega) x
              rwa [show (((b % n : Nat)) : Int) = (b : Int) % (n : Int) by omega] at this)
            go_wp2_with fail
            refine (HD2.out _).mono ?_
            rintro e w3 ⟨rfl, k3⟩
            have hz2 : (digS (b % n) 1).size ≤ 7 := digS_short (by omega)
            have hb1 := setCell_cells HBV.out 1 (.string ⟨#[76, 111, 110, 103]⟩)
            have kV : Keep NoB wr (V.setCell ⟨w2.heap.size, 1, none⟩ (.string ⟨#[76, 111, 110, 103]⟩)) := keepLate HVK.out hsV
            have hb3 := k3.heap hb1 (NoB.not _)
            have HQ := Lib.hid (And.intro hb3 (kV.then k3))
            obtain ⟨g0, g1, g2, g3, y0, y1, y2, y3⟩ := cells4 hb3
            clear k3 hb1 kV hb3 f1 z1
            go_wp2_with fail
            go_meet
            case rel =>
              refine ⟨rfl, rfl, ?_, keepLate HQ.out.2 hsV⟩
              rw [if_pos hl, HT.out, if_pos trivial]
              show _ = some (Obj.cells #[.int .i64 8, .string (tN (b % n)), .slice none 0 0, .slice none 0 0] 28 (0, 0))
              rw [← tN_eq (by omega)]
              exact setCell_cells HQ.out.1 1 _
        · have hl1 : ¬ (j : Int) = (n : Int) - 1 := by omega
          go_wp2_with fail
          go_meet
          case rel =>
            refine ⟨rfl, rfl, ?_, HK2.out.then (Keep.alloc _ _ _)⟩
            rw [if_neg hl, ← tN_eq (by omega)]
            exact (MapKept.heap_alloc w2 _).1
      case rest =>
        obtain ⟨rfl, rfl, hbt, hkc⟩ := hcut
        obtain ⟨z, hz⟩ : ∃ z, z = if j + 1 = n then lastN tg else tN (j + 1) := ⟨_, rfl⟩
        rw [← hz] at hbt
        obtain ⟨S, hS⟩ : ∃ S, S = digS j 1 := ⟨_, rfl⟩
        have HD3 := Lib.hid (show ∀ x, Calls Tryz.prog 9 #[.int .u64 j, .int .i64 1] x fun e w' => e = .returned (.string S) ∧ Keep NoB x w' from fun x => by rw [hS]; exact digits_c j 1 (by omega) (by omega) x)
        have hs3 : S.size ≤ 7 := by rw [hS]; exact digS_short (by omega)
        have hwu : IntKind.u64.wrap (j : Int) = (j : Int) := IntWalk.u64_in _ (by omega)
        have HS := Lib.hid (And.intro hS hz)
        have HZ := Lib.hid (show z.size ≤ 1000000 from by
          rw [hz]
          by_cases hl : j + 1 = n
          · rw [if_pos hl]
            unfold lastN
            cases htg : tg with
            | none => show (⟨#[76, 111, 110, 103]⟩ : Str).size ≤ _; decide
            | some b' =>
              have h1 := HT.out
              rw [htg] at h1
              have h2 : b' < n := by
                cases cir
                · cases h1
                · cases h1; exact Nat.mod_lt _ hn0
              have h3 := tN_size b' (by omega)
              show (tN b').size ≤ _; omega
          · rw [if_neg hl]
            have h3 := tN_size (j + 1) (by omega)
            omega)
        clear hS hz hz1
        have hrow := HE.out.1.keep0 ComI.keeps hkc
        have hlt := HE.out.1.lt
        have h12 := HK2.out.size
        have hws := HE.out.2.size
        have hwc := (Array.getElem?_eq_some_iff.1 hbt).1
        have hL : (chC n tg j).length = j := chC_len n tg j
        obtain ⟨xs, hxs⟩ := hrow.opened2 ComI.keeps
        rw [hL] at hxs
        have HQ := Lib.hid (show ∀ x, Keep (OB (.slice oo j oc)) wc x → x.cell? ⟨w2.heap.size, 0, none⟩ = some (.int .i64 8) ∧ x.cell? ⟨w2.heap.size, 1, none⟩ = some (.string z) ∧ x.cell? ⟨w2.heap.size, 2, none⟩ = some (.slice none 0 0) ∧ x.cell? ⟨w2.heap.size, 3, none⟩ = some (.slice none 0 0) from fun x kx => by
          have h1 := kx.heap hbt (fun h => by have := (hlt _ h).2; omega)
          obtain ⟨e0, e1, e2, e3, _⟩ := cells4 h1
          exact ⟨e0, e1, e2, e3⟩)
        have HQN := Lib.hid (show ∀ x, Keep NoB wc x → x.cell? ⟨w2.heap.size, 0, none⟩ = some (.int .i64 8) ∧ x.cell? ⟨w2.heap.size, 1, none⟩ = some (.string z) ∧ x.cell? ⟨w2.heap.size, 2, none⟩ = some (.slice none 0 0) ∧ x.cell? ⟨w2.heap.size, 3, none⟩ = some (.slice none 0 0) from fun x kx => HQ.out x (kx.mono fun _ _ h => h.elim))
        have HX := Lib.hid (And.intro hxs (And.intro hkc hlt))
        clear hxs hkc hrow hlt hbt
        have HP := Lib.hid (show ∀ (X : World) (bq sz : Nat), X.heap.size = sz → Keep NoB wc X → X.heap[bq]? = some (.cells #[.int .i64 8, .string z, .slice none 0 0, .slice none 0 0] 28 (0, 0)) → wc.heap.size ≤ bq →
            (X.alloc (.cells #[.string ((⟨#[84]⟩ : Str) ++ S), .int .i64 5, .string ⟨#[]⟩, .slice (some ⟨bq, 0, none⟩) 1 1, .slice none 0 0] 30)).ownsRow w.heap.size 30 5 (.slice oo j oc) j xs ∧
            (∀ (jj : Nat) (u : Value), ([.string ((⟨#[84]⟩ : Str) ++ S), .int .i64 5, .string ⟨#[]⟩, .slice (some ⟨bq, 0, none⟩) 1 1, .slice none 0 0] : List Value)[jj]? = some u → (X.alloc (.cells #[.string ((⟨#[84]⟩ : Str) ++ S), .int .i64 5, .string ⟨#[]⟩, .slice (some ⟨bq, 0, none⟩) 1 1, .slice none 0 0] 30)).cell? ((⟨sz, 0, none⟩ : Addr).add jj) = some u) ∧ w.heap.size ≤ (X.alloc (.cells #[.string ((⟨#[84]⟩ : Str) ++ S), .int .i64 5, .string ⟨#[]⟩, .slice (some ⟨bq, 0, none⟩) 1 1, .slice none 0 0] 30)).heap.size ∧ (X.alloc (.cells #[.string ((⟨#[84]⟩ : Str) ++ S), .int .i64 5, .string ⟨#[]⟩, .slice (some ⟨bq, 0, none⟩) 1 1, .slice none 0 0] 30)).heap.size = sz + 1 ∧
            ∀ (gg cap : Nat) (w5 : World), w5.ownsRow w.heap.size 30 5 (.slice (some ⟨gg, 0, none⟩) (j + 1) cap) (j + 1) (xs ++ [.string ((⟨#[84]⟩ : Str) ++ S), .int .i64 5, .string ⟨#[]⟩, .slice (some ⟨bq, 0, none⟩) 1 1, .slice none 0 0]) →
              (X.alloc (.cells #[.string ((⟨#[84]⟩ : Str) ++ S), .int .i64 5, .string ⟨#[]⟩, .slice (some ⟨bq, 0, none⟩) 1 1, .slice none 0 0] 30)).grownBy w5 (Value.slice oo j oc).ownBlock → ((Value.slice oo j oc).ownBlock = some gg ∨ gg = sz + 1) →
              RowIs ComI w5 w.heap.size 30 5 (.slice (some ⟨gg, 0, none⟩) (j + 1) cap) (chC n tg (j + 1)) ∧ Keep (OB (.slice oo j oc)) wc w5 from fun X bq sz hsz kX hB hlo => by
          have kE : Keep NoB X (X.alloc (.cells #[.string ((⟨#[84]⟩ : Str) ++ S), .int .i64 5, .string ⟨#[]⟩, .slice (some ⟨bq, 0, none⟩) 1 1, .slice none 0 0] 30)) := Keep.alloc _ _ _
          obtain ⟨h1, h2⟩ := HX.out.1 _ (kX.then kE)
          have hwc2 := HX.out.2.1.size
          have hkx := kX.size
          refine ⟨h1, hsz ▸ World.news_of_block (cs := #[.string ((⟨#[84]⟩ : Str) ++ S), .int .i64 5, .string ⟨#[]⟩, .slice (some ⟨bq, 0, none⟩) 1 1, .slice none 0 0]) (t := 30) (fr := (0, 0)) (MapKept.heap_alloc X _).1, by simp; omega, by simp [hsz], fun gg cap w5 ho hg hat => ?_⟩
          have hB' := kE.heap hB (NoB.not _)
          have hlt := HX.out.2.2
          obtain ⟨h3, h4⟩ := h2 gg cap w5 (tN j, chT n tg j) _ rfl ⟨5, ⟨#[]⟩, (some ⟨bq, 0, none⟩, 1, 1), (none, 0, 0), by rw [← tN_eq (by omega), ← HS.out.1], by
            unfold chT
            refine .set _ bq 0 1 (none, 0, 0) 8 z (none, 0, 0) (none, 0, 0) (fun h => ?_) (cellsAt_of_block hB') ?_
            · rcases h with h | h
              · have := (hlt _ h).2; omega
              · omega
            · show ITyIs _ _ (.ref (if j + 1 = n then lastN tg else tN (j + 1))) _
              rw [← HS.out.2]
              exact .ref z _ _ HZ.out⟩ ho hg (by simpa [hsz] using hat)
          refine ⟨by rw [chC_snoc]; exact h3, ((kX.then kE).mono fun _ _ h => h.elim).trans h4 (fun _ _ h => h) (fun _ _ h => h)⟩)
        have hK0 : Keep NoB wc wc.drew := Keep.drew _ _
        have hs1 : ¬ 9223372036854775807 < 1 + S.size := by omega
        go_upto_region 11 with fail
        obtain ⟨c0, c1, c2, c3⟩ := HQN.out _ hK0
        go_region_held3 (fun x => x.cell? ⟨w2.heap.size, 0, none⟩ = some (.int .i64 8) ∧ x.cell? ⟨w2.heap.size, 1, none⟩ = some (.string z) ∧ x.cell? ⟨w2.heap.size, 2, none⟩ = some (.slice none 0 0) ∧ x.cell? ⟨w2.heap.size, 3, none⟩ = some (.slice none 0 0))
          (with_reducible (first
            | assumption
            | exact HQ.out _ kk5
            | exact HQN.out _ kwA
            | exact HQN.out _ (kwA.then (Keep.alloc _ _ _))
            | exact HQN.out _ ((kwA.then (Keep.alloc _ _ _)).then (Keep.alloc _ _ _))
            | exact HQN.out _ (hK0.then (Keep.alloc _ _ _))
            | exact HQN.out _ hK0))
          ((first
            | (go_at_call 9
               refine (HD3.out _).mono ?_
               rintro e w4 ⟨rfl, k4⟩
               have kwA : Keep NoB wc w4 := by first | exact hK0.then k4 | exact (hK0.then (Keep.alloc _ _ _)).then k4
               (first | (with_reducible have hd := heap_alloc2 k4) | (with_reducible have hd := heap_alloc1 k4) | skip))
            | (obtain ⟨p1, p2, p3, p4, p5⟩ := HP.out w4 wc.heap.size _ rfl kwA hd (Nat.le_refl _)
               refine step_append_lies _ (by rfl) _ _ _ (by rfl) w.heap.size 30 iU _ 5 88 Tryz.underlying22 HU.out.1 HU.out.2.1 HU.out.2.2.1 HU.out.2.2.2 rfl (by omega) (.slice oo j oc) j xs (by rfl) p1
                 ⟨w4.heap.size, 0, none⟩ 1 1 _ (by rfl) (by rfl) p2 (by simp [Value.oneCell'])
                 (by omega) (by unfold maxLen; omega) (by omega) p3 (w4.heap.size + 1) p4 ?_
               intro gg cap w5 hown5 hgrow hgat hglt
               obtain ⟨hr5, kk5⟩ := p5 gg cap w5 hown5 hgrow hgat
               have H5 := Lib.hid (And.intro hr5 kk5)
               clear hr5 hown5 hgrow hgat hglt p1 p2 p3 p4 p5)
            | (obtain ⟨p1, p2, p3, p4, p5⟩ := HP.out (w4.alloc (.cells #[.int .i64 8, .string z, .slice none 0 0, .slice none 0 0] 28)) w4.heap.size (w4.heap.size + 1) (World.size_alloc _ _) (kwA.then (Keep.alloc _ _ _)) (MapKept.heap_alloc _ _).1 kwA.size
               refine step_append_lies _ (by rfl) _ _ _ (by rfl) w.heap.size 30 iU _ 5 88 Tryz.underlying22 HU.out.1 HU.out.2.1 HU.out.2.2.1 HU.out.2.2.2 rfl (by omega) (.slice oo j oc) j xs (by rfl) p1
                 ⟨w4.heap.size + 1, 0, none⟩ 1 1 _ (by rfl) (by rfl) p2 (by simp [Value.oneCell'])
                 (by omega) (by unfold maxLen; omega) (by omega) p3 (w4.heap.size + 1 + 1) p4 ?_
               intro gg cap w5 hown5 hgrow hgat hglt
               obtain ⟨hr5, kk5⟩ := p5 gg cap w5 hown5 hgrow hgat
               have H5 := Lib.hid (And.intro hr5 kk5)
               clear hr5 hown5 hgrow hgat hglt p1 p2 p3 p4 p5)))
        all_goals
          clear c0 c1 c2 c3 hK0
          go_wp2_with fail
          go_roundg (gk - 1)
          case measure => omega
          case rel =>
            obtain ⟨hr5, kk5⟩ := H5.out
            exact ⟨j + 1, by omega, by go_num, hr5, (HE.out.2.then HX.out.2.1).trans kk5 (fun _ _ h => h) (fun i hi h => by have := (HE.out.1.lt _ h).1; omega)⟩
    · obtain rfl : n = j := by omega
      obtain ⟨oo', oc', hsh, hcr⟩ := ComRow.ofRow hn50 HE.out.1
      cases hsh
      have hall := ch_all wr hcr
      have HI := Lib.hid (And.intro (fun h => implResolve_c _ NoB (chL n tg) (chD n tg) (some ⟨wr.heap.size + 1 + 1 + 1, 0, none⟩) 1 hall.1 110 h _ (Keep.refl _ _)) (HE.out.2.then hall.2))
      clear hall hcr hj
      go_wp2_with fail
      cases cir
      · obtain rfl : tg = none := by simpa using HT.out
        refine (HI.out.1 (ch_okN hn50 hn0)).mono ?_
        intro e w4 hpost
        obtain ⟨e0, ⟨eo, en, ec⟩, sN, sA, rfl, ⟨hlen, hrw⟩, hatt, k4⟩ := ch_postN hn50 hn0 hpost
        dsimp only [List.length_cons, List.length_nil] at hlen
        subst hlen
        rcases hrw with h | ⟨rb, roff, heo, _, hrows⟩
        · cases h
        dsimp only at heo
        subst heo
        obtain ⟨cs0, _, hc0, ps0, ats0, kk0, ss0, el0, al0, rfl, hO0⟩ := hrows 0 (qual ⟨#[78]⟩ ⟨#[69]⟩, e0) rfl
        have hat := hO0.att ⟨#[]⟩ (none, 0, 0)
        rw [show (qual ⟨#[78]⟩ ⟨#[69]⟩, e0).2.attrs = e0.attrs from rfl, hatt] at hat
        obtain ⟨ba, oa, ca, kk, ss, ⟨lo, ln, lc⟩, ⟨mo, mn, mc⟩, rfl, hca, hty⟩ := att1 hat
        have hrb : rb < w4.heap.size := block_lt_of_cell (hc0 0 _ rfl)
        have hba : ba < w4.heap.size := block_lt_of_cell (hca 0 _ rfl)
        have n1 := hc0 2 _ rfl
        have n2 := hca 2 _ rfl
        have n3 := hca 3 _ rfl
        have n4 := hca 4 _ rfl
        have n5 := hca 5 _ rfl
        simp only [Nat.zero_mul, Nat.add_zero, slV] at n1 n2 n3 n4 n5
        have HW := Lib.hid (And.intro hty (HI.out.2.then k4))
        clear hpost hrows hc0 hca hat hatt hO0 hty k4 HI HE
        go_wp2_with fail
        have kA : Keep NoB w4 ((w4.alloc (.cells #[.slice (some ⟨rb, roff, none⟩) 1 ec, .slice sN.1 sN.2.1 sN.2.2, .slice sA.1 sA.2.1 sA.2.2] 40)).alloc (.cells #[.int .i64 kk, .string ss, .slice lo ln lc, .slice mo mn mc] 28)) := (Keep.alloc _ _ NoB).then (Keep.alloc _ _ NoB)
        have hbA := (MapKept.heap_alloc (w4.alloc (.cells #[.slice (some ⟨rb, roff, none⟩) 1 ec, .slice sN.1 sN.2.1 sN.2.2, .slice sA.1 sA.2.1 sA.2.2] 40)) (.cells #[.int .i64 kk, .string ss, .slice lo ln lc, .slice mo mn mc] 28)).1
        rw [World.size_alloc] at hbA
        have HA := Lib.hid (And.intro kA hbA)
        clear kA hbA n1 n2 n3 n4 n5 hrb hba
        go_loopg [16] n (fun g s16 wx => ∃ (q : Nat) (kk : Int) (s : Str) (el al : Sl), q + g = n ∧ s16 = .int .i64 q ∧ wx.heap[w4.heap.size + 1]? = some (.cells #[.int .i64 kk, .string s, .slice el.1 el.2.1 el.2.2, .slice al.1 al.2.1 al.2.2] 28 (0, 0)) ∧ OTyIs wx (fun i => i = w4.heap.size + 1) (setA (n - q) .long) (tyV kk s el al) ∧ Keep NoB w wx)
        case atStart =>
          exact ⟨0, kk, ss, (lo, ln, lc), (mo, mn, mc), by omega, rfl, HA.out.2, HW.out.1.keep HA.out.1 (fun _ _ h => h.elim) (fun i hi h => by omega), HW.out.2.then HA.out.1⟩
        case round =>
          obtain ⟨q, kk, s, ⟨lo, ln, lc⟩, ⟨mo, mn, mc⟩, hq, rfl, hb, hty, hkx⟩ := hrel
          dsimp only at hb
          by_cases hqt : q < n
          · rw [show n - q = (n - (q + 1)) + 1 by omega] at hty
            obtain ⟨rfl, b1, o1, c1, k1, s1, ⟨lo1, ln1, lc1⟩, ⟨mo1, mn1, mc1⟩, hel, hM1, hc1, hty1⟩ := set_of hty
            cases hel
            have hws := hkx.size
            have HX := Lib.hid (And.intro hb (And.intro hty1 hkx))
            obtain ⟨f0, f1, f2, f3, z0, z1, z2, z3⟩ := cells4 hb
            have n1 := hc1 0 _ rfl
            have n2 := hc1 1 _ rfl
            have n3 := hc1 2 _ rfl
            have n4 := hc1 3 _ rfl
            simp only [Nat.add_zero, slV] at n1 n2 n3 n4
            clear hb hty hty1 hkx hc1
            go_wp2_with fail
            go_roundg (gk - 1)
            case measure => omega
            case rel =>
              obtain ⟨hb, hty1, hkx⟩ := HX.out
              obtain ⟨wz, hwz, kz, hz, _⟩ := set4 _ _ _ (.int .i64 k1) (.string s1) (.slice lo1 ln1 lc1) (.slice mo1 mn1 mc1) hb
              rw [← hwz]
              clear hwz
              have hw4 := HW.out.2.size
              exact ⟨q + 1, k1, s1, (lo1, ln1, lc1), (mo1, mn1, mc1), by omega, by go_num, hz, hty1.keep kz (fun _ _ h => h) (fun _ _ h => h), hkx.trans kz (fun _ _ h => h) (fun i hi h => by omega)⟩
          · obtain rfl : n = q := by omega
            rw [Nat.sub_self] at hty
            obtain rfl := long_of hty
            obtain ⟨f0, f1, f2, f3, z0, z1, z2, z3⟩ := cells4 hb
            have HX := Lib.hid hkx
            clear hb hty hkx hq
            go_wp2_with fail
            go_ret
            exact ⟨rfl, HX.out⟩
      · have hbn : b % n < n := Nat.mod_lt _ hn0
        obtain rfl : tg = some (b % n) := by simpa using HT.out
        refine (HI.out.1 (ch_okS hn50 hbn)).mono ?_
        intro e w4 hpost
        obtain ⟨rfl, k4⟩ := ch_postS hn50 hbn hpost
        have K4 := Lib.hid k4
        clear k4 hpost
        go_wp2_with (go_at_call 11; refine (schemaTypes_c _).mono ?_; rintro e w5 ⟨rfl, k5⟩; have K5 := Lib.hid k5; clear k5)
        go_ret
        exact ⟨rfl, ((HI.out.2.then K4.out).then (Keep.alloc _ _ _)).then K5.out⟩
end Go.Proofs.YthhjehajdcgkhaaGreatDoor
