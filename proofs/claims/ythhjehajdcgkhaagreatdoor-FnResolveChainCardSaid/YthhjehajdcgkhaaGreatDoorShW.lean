/- FnResolveShadow: given namespaces in memory; the walks of schemaTypes and of the law. -/
import Derived.Test.YthhjehajdcgkhaaGreatDoorShP
namespace Go.Proofs.YthhjehajdcgkhaaGreatDoor
open Go.RowKit

theorem cellsAt_of_block {w : World} {b : Nat} {cs : Array Value} {T : TypeId} {f : Nat × Nat} (h : w.heap[b]? = some (.cells cs T f)) : CellsAt w b 0 cs.toList := by
  intro j v hj
  rw [Nat.zero_add, cell_cells h]
  simpa using hj
theorem ient_empty (w : World) (M : Nat → Prop) (nm : Str) : IEntIs w M nm ⟨[], [], none⟩ (none, 0, 0) (none, 0, 0) 0 ⟨#[]⟩ (none, 0, 0) (none, 0, 0) :=
  ⟨rfl, by simp, by simp, ⟨none, 0, rfl, .inl rfl⟩, .record ⟨#[]⟩ (none, 0, 0) none 0 (fun _ => 0) (fun _ => ⟨#[]⟩) (fun _ => (none, 0, 0)) (fun _ => (none, 0, 0)) (by simp) (by simp) (.inl rfl) (fun i k t q h => by simp at h), fun t h => by cases h⟩
theorem ient_ref {w : World} (nm z : Str) {b : Nat} (hz : z.size ≤ 1000000) (h : CellsAt w b 0 [.string ⟨#[97]⟩, .bool false, .int .i64 8, .string z, .slice none 0 0, .slice none 0 0]) :
    IEntIs w NoB nm ⟨[], [(⟨#[97]⟩, .ref z, false)], none⟩ (none, 0, 0) (some ⟨b, 0, none⟩, 1, 1) 0 ⟨#[]⟩ (none, 0, 0) (none, 0, 0) := by
  refine ⟨rfl, by simp, by simp, ⟨none, 0, rfl, .inl rfl⟩, ?_, fun t h => by cases h⟩
  refine .record (l := [(⟨#[97]⟩, .ref z, false)]) ⟨#[]⟩ (none, 0, 0) (some ⟨b, 0, none⟩) 1 (fun _ => 8) (fun _ => z) (fun _ => (none, 0, 0)) (fun _ => (none, 0, 0)) (by simp) (by simp) (.inr ⟨b, 0, rfl, NoB.not _, fun i k t q hi => ?_⟩) (fun i k t q hi => ?_)
  · rcases i with _ | i
    · simp only [List.getElem?_cons_zero, Option.some.injEq, Prod.mk.injEq] at hi
      obtain ⟨rfl, rfl, rfl⟩ := hi
      exact h
    · simp at hi
  · rcases i with _ | i
    · simp only [List.getElem?_cons_zero, Option.some.injEq, Prod.mk.injEq] at hi
      obtain ⟨rfl, rfl, rfl⟩ := hi
      exact .ref z _ _ hz
    · simp at hi
/-- Given common types in a row. -/
structure ComRow (w : World) (cs : List (Str × ATy)) (sc : Sl) : Prop where
  clen : sc.2.1 = cs.length
  cL : cs.length ≤ 1000000
  cnod : (cs.map (·.1)).Nodup
  csz : ∀ p ∈ cs, p.1.size ≤ 1000000
  com : cs = [] ∨ ∃ b off, sc.1 = some ⟨b, off, none⟩ ∧ ∀ i nm t, cs[i]? = some (nm, t) → ∃ k s el al, CellsAt w b (off + i * 5) [.string nm, .int .i64 k, .string s, slV el, slV al] ∧ ITyIs w NoB t (tyV k s el al)
theorem ComRow.nil (w : World) : ComRow w [] (none, 0, 0) := ⟨rfl, by simp, by simp, by simp, .inl rfl⟩
theorem isp_oneC {w : World} {nm : Str} {e : IEnt} {ps ats : Sl} {k : Int} {s : Str} {el al : Sl} {b : Nat} {cs : List (Str × ATy)} {sc : Sl} (hs : nm.size ≤ 1000000) (hI : IEntIs w NoB nm e ps ats k s el al)
    (hc : CellsAt w b 0 [.string nm, slV ps, slV ats, .bool e.tags.isSome, .int .i64 k, .string s, slV el, slV al]) (h : ComRow w cs sc) : ISpIs w NoB [(nm, e)] [] cs (some ⟨b, 0, none⟩, 1, 1) (none, 0, 0) (none, 0, 0) sc := by
  refine ⟨rfl, rfl, rfl, h.clen, h.cL, h.cnod, h.csz, h.com, by simp, by simp, by simp, by simp, fun p hp => ?_, fun p hp => by simp at hp, .inr ⟨b, 0, rfl, fun i n e' hi => ?_⟩, .inl rfl⟩
  · simp only [List.mem_singleton] at hp; rw [hp]; exact hs
  · rcases i with _ | i
    · simp only [List.getElem?_cons_zero, Option.some.injEq, Prod.mk.injEq] at hi
      obtain ⟨rfl, rfl⟩ := hi
      exact ⟨ps, ats, k, s, el, al, hc, hI⟩
    · simp at hi
theorem isp_one {w : World} {nm : Str} {e : IEnt} {ps ats : Sl} {k : Int} {s : Str} {el al : Sl} {b : Nat} (hs : nm.size ≤ 1000000) (hI : IEntIs w NoB nm e ps ats k s el al)
    (hc : CellsAt w b 0 [.string nm, slV ps, slV ats, .bool e.tags.isSome, .int .i64 k, .string s, slV el, slV al]) : ISpIs w NoB [(nm, e)] [] [] (some ⟨b, 0, none⟩, 1, 1) (none, 0, 0) (none, 0, 0) (none, 0, 0) :=
  isp_oneC hs hI hc (.nil w)

/-! ### schemaTypes -/
def stL (x : Str) : List ISp := [⟨⟨#[]⟩, shX x, [], []⟩]
def stD : Str → SpD := fun _ => spOf [] [] []
theorem st_bare (x : Str) : bareSp (stL x) = spOf (shX x) [] [] := by
  unfold bareSp stL
  simp
theorem st_named (x : Str) : namedSp (stL x) = [] := by
  unfold namedSp stL
  simp
theorem st_ents {V : Env} {x n : Str} {v : REnt} (h : EntsOf V 5 (bareSp (stL x)) stD (· ∈ namedSp (stL x)) n v) : n = x ∧ v = ⟨x, [], none, none⟩ := by
  rw [st_bare, st_named] at h
  rcases h with ⟨m, hm, h1, h2⟩ | ⟨s, hs, _⟩
  · rw [sh_en] at hm
    simp only [List.mem_singleton] at hm
    subst hm
    rw [qual0] at h1
    rw [sh_AE, REntOf_zero, qual0] at h2
    exact ⟨h1, h2⟩
  · simp at hs
theorem st_ok {x : Str} (sx : x.size ≤ 1000) : ResOk (stL x) stD 5 := by
  refine ⟨.none (by rw [st_bare]; rfl) (fun _ _ => rfl), fun V hV _ => ⟨fun n hn => ?_, fun s hs n hn => ?_⟩, fun V hV _ n v h => ?_, ⟨[x], by simp, fun n hn => ?_, fun V hV _ n v h => ?_⟩, ⟨[], by simp, fun n hn => by simp at hn, fun n v h => ?_⟩⟩
  · rw [st_bare] at hn ⊢
    rw [sh_en] at hn
    simp only [List.mem_singleton] at hn
    subst hn
    rw [sh_AE]
    exact ⟨_, resEnt_zero _ _ _ _⟩
  · rw [st_named] at hs; simp at hs
  · obtain ⟨_, rfl⟩ := st_ents h
    exact ⟨by simp, (fun t h => by simp at h), (fun t h => by simp at h)⟩
  · simp only [List.mem_singleton] at hn
    subst hn; omega
  · rw [(st_ents h).1]; simp
  · rw [st_bare, st_named] at h
    rcases h with ⟨m, hm, _⟩ | ⟨s, hs, m, hm, _⟩
    · simp [spOf] at hm
    · simp at hs
theorem st_post {x : Str} {w w' : World} {e : Ending} (h : ImplPost (stL x) stD 5 w e w') :
    ∃ (sE sN sA : Sl), e = .returned (.tuple #[.agg #[slV sE, slV sN, slV sA], .bool true, .bool false]) ∧ sE.2.1 = 1 ∧ Keep NoB w w' := by
  rcases h with ⟨_, hbad, _⟩ | ⟨hw, V, hV, _, _, hr, lE, lN, sE, sN, sA, he, hrow, _, _, ⟨_, hnod⟩, _, hfrom, hto, _, _, hk⟩
  · exfalso
    rw [st_bare, st_named] at hbad
    rcases hbad with (⟨n, _, h⟩ | ⟨s, hs, _⟩ | ⟨s, hs, _⟩) | ⟨V, hV, h | ⟨_, ⟨n, hn, h⟩ | ⟨s, hs, _⟩⟩⟩
    · simp [spOf] at h
    · simp at hs
    · simp at hs
    · exact h (acyc_none (hV.noC rfl (fun _ _ => rfl)))
    · rw [sh_en] at hn
      simp only [List.mem_singleton] at hn
      subst hn
      rw [sh_AE, resEnt_zero] at h
      cases h
    · simp at hs
  · refine ⟨sE, sN, sA, he, ?_, hk⟩
    rw [hrow.1]
    have h1 : x ∈ lE.map (·.1) := hto x (REntOf V 5 ⟨#[]⟩ x ⟨[], none, none⟩) (by
      rw [st_bare]
      exact .inl ⟨x, by rw [sh_en]; simp, (qual0 x).symm, by rw [sh_AE]⟩)
    have h2 := length_le_of_subset hnod (b := [x]) (fun n hn => by
      obtain ⟨p, hp, rfl⟩ := List.mem_map.1 hn
      obtain ⟨v, hv, _⟩ := hfrom p hp
      rw [(st_ents hv).1]; simp)
    have h3 := List.length_pos_of_mem h1
    simp only [List.length_map, List.length_cons, List.length_nil] at h2 h3
    omega

set_option maxRecDepth 100000 in
set_option maxHeartbeats 4000000 in
theorem schemaTypes_c (w : World) : Calls Tryz.prog 11 #[] w fun e w' => e = .returned (.bool true) ∧ Keep NoB w w' := by
  obtain ⟨O1, hO1⟩ : ∃ O1 : Obj, O1 = .cells #[.string ⟨#[65]⟩, .slice none 0 0, .slice none 0 0, .bool false, .int .i64 0, .string ⟨#[]⟩, .slice none 0 0, .slice none 0 0] 35 := ⟨_, rfl⟩
  obtain ⟨O2, hO2⟩ : ∃ O2 : Obj, O2 = .cells #[.string ⟨#[]⟩, .slice (some ⟨w.heap.size, 0, none⟩) 1 1, .slice none 0 0, .slice none 0 0, .slice none 0 0] 45 := ⟨_, rfl⟩
  have k1 : Keep NoB w (w.alloc O1) := Keep.alloc _ _ _
  have k2 : Keep NoB (w.alloc O1) ((w.alloc O1).alloc O2) := Keep.alloc _ _ _
  have hb1 := k2.heap (MapKept.heap_alloc w O1).1 (NoB.not _)
  have hb2 := (MapKept.heap_alloc (w.alloc O1) O2).1
  rw [World.size_alloc] at hb2
  have hall : IAll ((w.alloc O1).alloc O2) NoB (stL ⟨#[65]⟩) stD (some ⟨w.heap.size + 1, 0, none⟩) := by
    refine ⟨by simp [stL], by rw [st_named]; simp, fun S hS hn => ?_, fun S hS => ?_, .inr ⟨_, 0, rfl, fun i S hi => ?_⟩⟩
    · simp only [stL, List.mem_singleton] at hS
      subst hS
      exact (hn rfl).elim
    · simp only [stL, List.mem_singleton] at hS
      subst hS
      decide
    · rcases i with _ | i
      · simp only [stL, List.getElem?_cons_zero, Option.some.injEq] at hi
        subst hi
        subst hO1 hO2
        exact ⟨(some ⟨w.heap.size, 0, none⟩, 1, 1), (none, 0, 0), (none, 0, 0), (none, 0, 0), cellsAt_of_block hb2, isp_one (by decide) (ient_empty _ _ _) (cellsAt_of_block hb1)⟩
      · simp [stL] at hi
  have HC := Lib.hid (And.intro (implResolve_c _ NoB (stL ⟨#[65]⟩) stD (some ⟨w.heap.size + 1, 0, none⟩) 1 hall 5 (st_ok (by decide)) _ (Keep.refl _ _)) (k1.then k2))
  subst hO1 hO2
  clear hall hb1 hb2 k1 k2
  go_enter Tryz.func11, Tryz.ntmps11
  go_wp2_with fail
  refine HC.out.1.mono ?_
  intro e w' hpost
  obtain ⟨sE, sN, sA, rfl, h1, hk⟩ := st_post hpost
  obtain ⟨eo, en, ec⟩ := sE
  dsimp only at h1
  subst h1
  have HK := Lib.hid hk
  clear hk hpost
  go_wp2_with fail
  go_ret
  exact ⟨rfl, (HC.out.2.then HK.out).then (Keep.alloc _ _ _)⟩

/-! ### the law -/
theorem cellsAt_drop {w : World} {b : Nat} {cs : List Value} (h : CellsAt w b 0 cs) (k : Nat) : CellsAt w b (0 + k) (cs.drop k) := by
  intro j v hj
  rw [List.getElem?_drop] at hj
  have := h (k + j) v hj
  rw [Nat.zero_add] at this ⊢
  exact this

/-- What is laid ahead of the call. -/
abbrev shO1 (z : Str) : Obj := .cells #[.string ⟨#[97]⟩, .bool false, .int .i64 8, .string z, .slice none 0 0, .slice none 0 0] 32
abbrev shO2 (y : Str) (n : Nat) : Obj := .cells #[.string y, .slice none 0 0, .slice (some ⟨n, 0, none⟩) 1 1, .bool false, .int .i64 0, .string ⟨#[]⟩, .slice none 0 0, .slice none 0 0] 35
abbrev shO3 (x : Str) : Obj := .cells #[.string x, .slice none 0 0, .slice none 0 0, .bool false, .int .i64 0, .string ⟨#[]⟩, .slice none 0 0, .slice none 0 0] 35
abbrev shO5 (n : Nat) : Obj := .cells #[.string ⟨#[]⟩, .slice (some ⟨n + 1 + 1, 0, none⟩) 1 1, .slice none 0 0, .slice none 0 0, .slice none 0 0, .string ⟨#[78]⟩, .slice (some ⟨n + 1 + 1 + 1, 0, none⟩) 1 1, .slice none 0 0, .slice none 0 0, .slice none 0 0] 45
abbrev shW (w : World) (x y z : Str) : World := ((((w.alloc (shO1 z)).alloc (shO2 y w.heap.size)).alloc (shO3 x)).alloc (shO2 y w.heap.size)).alloc (shO5 w.heap.size)
theorem sh_all (w : World) (x y z : Str) (sx : x.size ≤ 1000) (sy : y.size ≤ 1000) (sz : z.size ≤ 1000) :
    IAll (shW w x y z) NoB (shL x y z) (shD y z) (some ⟨w.heap.size + 1 + 1 + 1 + 1, 0, none⟩) ∧ Keep NoB w (shW w x y z) := by
  obtain ⟨O1, hO1⟩ : ∃ O, O = shO1 z := ⟨_, rfl⟩
  obtain ⟨O2, hO2⟩ : ∃ O, O = shO2 y w.heap.size := ⟨_, rfl⟩
  obtain ⟨O3, hO3⟩ : ∃ O, O = shO3 x := ⟨_, rfl⟩
  obtain ⟨O5, hO5⟩ : ∃ O, O = shO5 w.heap.size := ⟨_, rfl⟩
  unfold shW
  rw [← hO1, ← hO2, ← hO3, ← hO5]
  have k1 : Keep NoB w (w.alloc O1) := Keep.alloc _ _ _
  have k2 : Keep NoB (w.alloc O1) ((w.alloc O1).alloc O2) := Keep.alloc _ _ _
  have k3 : Keep NoB ((w.alloc O1).alloc O2) (((w.alloc O1).alloc O2).alloc O3) := Keep.alloc _ _ _
  have k4 : Keep NoB (((w.alloc O1).alloc O2).alloc O3) ((((w.alloc O1).alloc O2).alloc O3).alloc O2) := Keep.alloc _ _ _
  have k5 : Keep NoB ((((w.alloc O1).alloc O2).alloc O3).alloc O2) (((((w.alloc O1).alloc O2).alloc O3).alloc O2).alloc O5) := Keep.alloc _ _ _
  have hb1 := (((k2.then k3).then k4).then k5).heap (MapKept.heap_alloc w O1).1 (NoB.not _)
  have hb3 := (k4.then k5).heap (MapKept.heap_alloc ((w.alloc O1).alloc O2) O3).1 (NoB.not _)
  have hb4 := k5.heap (MapKept.heap_alloc (((w.alloc O1).alloc O2).alloc O3) O2).1 (NoB.not _)
  have hb5 := (MapKept.heap_alloc ((((w.alloc O1).alloc O2).alloc O3).alloc O2) O5).1
  simp only [World.size_alloc] at hb3 hb4 hb5
  refine ⟨?_, (((k1.then k2).then k3).then k4).then k5⟩
  generalize (((((w.alloc O1).alloc O2).alloc O3).alloc O2).alloc O5) = W at *
  clear k1 k2 k3 k4 k5
  subst hO1 hO2 hO3 hO5
  refine ⟨by simp [shL], by rw [sh_named]; simp, fun S hS hn => ?_, fun S hS => ?_, .inr ⟨_, 0, rfl, fun i S hi => ?_⟩⟩
  · simp only [shL, List.mem_cons, List.not_mem_nil, or_false] at hS
    rcases hS with rfl | rfl
    · exact (hn rfl).elim
    · rfl
  · simp only [shL, List.mem_cons, List.not_mem_nil, or_false] at hS
    rcases hS with rfl | rfl
    · show (⟨#[]⟩ : Str).size ≤ _; decide
    · show (⟨#[78]⟩ : Str).size ≤ _; decide
  · match i with
    | 0 =>
      simp only [shL, List.getElem?_cons_zero, Option.some.injEq] at hi
      subst hi
      exact ⟨(some ⟨w.heap.size + 1 + 1, 0, none⟩, 1, 1), (none, 0, 0), (none, 0, 0), (none, 0, 0), fun j v hj => cellsAt_of_block hb5 j v (by
        match j, hj with
        | 0, hj | 1, hj | 2, hj | 3, hj | 4, hj => exact hj
        | j + 5, hj => simp at hj), isp_one (by omega) (ient_empty _ _ _) (cellsAt_of_block hb3)⟩
    | 1 =>
      simp only [shL, List.getElem?_cons_succ, List.getElem?_cons_zero, Option.some.injEq] at hi
      subst hi
      exact ⟨(some ⟨w.heap.size + 1 + 1 + 1, 0, none⟩, 1, 1), (none, 0, 0), (none, 0, 0), (none, 0, 0), cellsAt_drop (cellsAt_of_block hb5) 5, isp_one (by omega) (ient_ref y z (by omega) (cellsAt_of_block hb1)) (cellsAt_of_block hb4)⟩
    | i + 2 => simp [shL] at hi

theorem att_one {w : World} {M : Nat → Prop} {k s : Str} {q : Bool} {ats : Sl} (h : OTyIs w M (.record [(k, .ent s, q)]) (tyV 6 ⟨#[]⟩ (none, 0, 0) ats)) :
    ∃ b off c el al, ats = (some ⟨b, off, none⟩, 1, c) ∧ CellsAt w b off [.string k, .bool q, .int .i64 7, .string s, slV el, slV al] := by
  generalize hv : tyV 6 ⟨#[]⟩ (none, 0, 0) ats = v at h
  cases h with
  | record s' e ao c kf sf ef af hc ht =>
    simp only [Value.agg.injEq, Array.mk.injEq, List.cons.injEq, Value.slice.injEq, and_true, true_and, List.length_cons, List.length_nil] at hv
    obtain ⟨_, _, h3, h4, h5⟩ := hv
    rcases hc with hc | ⟨b, off, e1, _, hc⟩
    · cases hc
    · have h1 := hc 0 k (.ent s) q rfl
      have h2 := ht 0 k (.ent s) q rfl
      generalize kf 0 = kk at h1 h2
      generalize sf 0 = ss at h1 h2
      generalize ef 0 = ee at h1 h2
      generalize af 0 = aa at h1 h2
      generalize hv2 : tyV kk ss ee aa = v2 at h2
      cases h2
      simp only [Value.agg.injEq, Array.mk.injEq, List.cons.injEq, Value.int.injEq, Value.string.injEq, and_true, true_and] at hv2
      obtain ⟨rfl, rfl, _⟩ := hv2
      obtain ⟨a0, a1, a2⟩ := ats
      dsimp only at h3 h4 h5
      refine ⟨b, off, c, ee, aa, by rw [h3, h4, h5, e1], ?_⟩
      simpa using h1
theorem toList_ne {s t : Str} (h : s ≠ t) : (s.toList == t.toList) = false := by
  rw [Bool.eq_false_iff]; exact fun e => h (toList_beq.1 e)
theorem toList_bne {s t : Str} (h : s ≠ t) : (s.toList != t.toList) = true := by
  unfold bne; rw [toList_ne h]; rfl
theorem digS_size (k : Nat) : (digS k 1).size ≤ k + 1 := by
  have h1 : (digS k 1).size = (dig k 1).length := rfl
  rw [h1]
  exact dig_len k 1

set_option maxRecDepth 100000 in
set_option maxHeartbeats 8000000 in
theorem shadow_c (a b c : Nat) (ha : a ≤ 255) (hb : b ≤ 255) (hc : c ≤ 255) (w : World) : Calls Tryz.prog 6 #[.int .u8 a, .int .u8 b, .int .u8 c] w fun e w' => e = .returned (.bool true) ∧ Keep NoB w w' := by
  have sa : (digS a 1).size ≤ 1000 := by have := digS_size a; omega
  have sb : (digS b 1).size ≤ 1000 := by have := digS_size b; omega
  have sc : (digS c 1).size ≤ 1000 := by have := digS_size c; omega
  go_enter Tryz.func6, Tryz.ntmps6
  go_wp2_with fail
  refine (digits_c a 1 (by omega) (by omega) _).mono ?_
  rintro e w1 ⟨rfl, k1⟩
  have K1 := Lib.hid k1
  clear k1
  go_wp2_with fail
  refine (digits_c b 1 (by omega) (by omega) _).mono ?_
  rintro e w2 ⟨rfl, k2⟩
  have K2 := Lib.hid k2
  clear k2
  go_wp2_with fail
  refine (digits_c c 1 (by omega) (by omega) _).mono ?_
  rintro e w3 ⟨rfl, k3⟩
  have K3 := Lib.hid k3
  clear k3
  obtain ⟨x, hx⟩ : ∃ x, x = eN a := ⟨_, rfl⟩
  obtain ⟨y, hy⟩ : ∃ y, y = eN b := ⟨_, rfl⟩
  obtain ⟨z, hz⟩ : ∃ z, z = eN c := ⟨_, rfl⟩
  have HX := Lib.hid (show NC x ∧ NC z ∧ builtinTy z = none ∧ x.size ≤ 1000 ∧ y.size ≤ 1000 ∧ z.size ≤ 1000 from ⟨hx ▸ eN_nc a, hz ▸ eN_nc c, hz ▸ eN_builtin c, by have := eN_size a; rw [hx]; omega, by have := eN_size b; rw [hy]; omega, by have := eN_size c; rw [hz]; omega⟩)
  have HE := Lib.hid (And.intro hx (And.intro hy hz))
  clear hx hy hz
  go_wp2_with fail
  rw [show (⟨#[69]⟩ : Str) ++ digS a 1 = x from HE.out.1.symm, show (⟨#[69]⟩ : Str) ++ digS b 1 = y from HE.out.2.1.symm, show (⟨#[69]⟩ : Str) ++ digS c 1 = z from HE.out.2.2.symm]
  clear sa sb sc HE
  have hall := sh_all w3 x y z HX.out.2.2.2.1 HX.out.2.2.2.2.1 HX.out.2.2.2.2.2
  have HC := Lib.hid (And.intro (implResolve_c _ NoB (shL x y z) (shD y z) (some ⟨w3.heap.size + 1 + 1 + 1 + 1, 0, none⟩) 2 hall.1 5 (sh_ok HX.out.1 HX.out.2.1 HX.out.2.2.1 HX.out.2.2.2.1 HX.out.2.2.2.2.1) _ (Keep.refl _ _)) hall.2)
  clear hall
  refine HC.out.1.mono ?_
  intro e w4 hpost
  have HP := Lib.hid (sh_post HX.out.1 HX.out.2.1 HX.out.2.2.1 hpost)
  clear hpost
  have KW := Lib.hid ((((K1.out.then K2.out).then K3.out).then HC.out.2))
  clear K1 K2 K3 HC
  by_cases hxy : x = y
  · obtain ⟨rfl, k4⟩ := HP.out.1 (.inl hxy)
    subst hxy
    have K4 := Lib.hid k4
    clear k4 HP
    go_wp2_with (go_at_call 11; refine (schemaTypes_c _).mono ?_; rintro e w5 ⟨rfl, k5⟩; have K5 := Lib.hid k5; clear k5)
    go_ret
    exact ⟨rfl, ((KW.out.then K4.out).then (Keep.alloc _ _ _)).then K5.out⟩
  · have t1 := toList_ne hxy
    have t2 := toList_bne hxy
    have HN := Lib.hid hxy
    clear hxy
    by_cases hzy : z = y
    · obtain rfl : y = z := hzy.symm
      obtain ⟨lE, ⟨eo, en, ec⟩, sN, sA, e0, e1, rfl, ⟨hlen, hrw⟩, hl, he0, k4⟩ := HP.out.2 HN.out (qual ⟨#[78]⟩ y) (by unfold shWant; rw [if_pos rfl])
      have hlen2 : lE.length = 2 := by rcases hl with rfl | rfl <;> rfl
      rw [hlen2] at hlen
      dsimp only at hlen
      subst hlen
      rcases hrw with h | ⟨rb, roff, heo, _, hrows⟩
      · rw [h] at hlen2; cases hlen2
      dsimp only at heo
      subst heo
      clear hlen2 HP
      have K4 := Lib.hid k4
      clear k4
      have hq : (⟨#[78, 58, 58]⟩ : Str) ++ y = qual ⟨#[78]⟩ y := ByteArray.ext (Array.toList_inj.1 (by rw [qualN_list, ByteArray.data_append]; simp))
      have t7 : ((qual ⟨#[78]⟩ y).toList == ((⟨#[78, 58, 58]⟩ : Str) ++ y).toList) = true := by rw [hq]; exact beq_self_eq_true _
      clear hq
      have t8 := toList_ne (Ne.symm HN.out)
      have t9 := toList_bne (Ne.symm HN.out)
      clear hzy
      have tq := toList_ne (qualN_ne HX.out.1 (s := y)).symm
      have j1 := HX.out.2.2.2.2.1
      rcases hl with rfl | rfl
      · obtain ⟨cs0, _, hc0, ps0, ats0, kk0, ss0, el0, al0, rfl, hO0⟩ := hrows 0 (x, e1) rfl
        obtain ⟨cs1, _, hc1, ps1, ats1, kk1, ss1, el1, al1, rfl, hO1⟩ := hrows 1 (qual ⟨#[78]⟩ y, e0) rfl
        have hatt := hO1.att ⟨#[]⟩ (none, 0, 0)
        rw [show (qual ⟨#[78]⟩ y, e0).2.attrs = e0.attrs from rfl, he0] at hatt
        obtain ⟨ba, oa, ca, ea, aa, rfl, hca⟩ := att_one hatt
        have hrb : rb < w4.heap.size := block_lt_of_cell (hc0 0 _ rfl)
        have hba : ba < w4.heap.size := block_lt_of_cell (hca 0 _ rfl)
        have n0 := hc0 0 _ rfl
        have n1 := hc1 0 _ rfl
        have n2 := hc1 2 _ rfl
        have n3 := hca 2 _ rfl
        have n4 := hca 3 _ rfl
        simp only [Nat.zero_mul, Nat.add_zero, Nat.one_mul, slV] at n0 n1 n2 n3 n4
        clear hrows hc0 hc1 hca hatt hO0 hO1
        go_wp2_with fail
        refine wp_loop_rounds 2 ?_
        rw [rounds_succ]
        go_wp2_with fail
        go_quiet ((go_at_call 13; exact Calls.quiet_of_same (joinName_c _ _ _ (by decide) (by omega))))
        go_wp2_with fail
        obtain ⟨w6, hw6⟩ : ∃ w6, w6 = (w4.alloc (.cells #[.slice (some ⟨rb, roff, none⟩) 2 ec, .slice sN.1 sN.2.1 sN.2.2, .slice sA.1 sA.2.1 sA.2.2] 40)).drewN nq := ⟨_, rfl⟩
        have k6 : Keep NoB w4 w6 := hw6 ▸ ((Keep.alloc _ _ NoB).then (Keep.drewN _ _ _))
        have r6 : w6.cell? ⟨w4.heap.size, 0, none⟩ = some (.slice (some ⟨rb, roff, none⟩) 2 ec) := by
          rw [hw6]
          exact (Keep.drewN _ _ NoB).cell (by rw [cell_cells (MapKept.heap_alloc w4 _).1]; rfl) (NoB.not _)
        rw [← hw6]
        clear hw6
        have m1 := k6.cell n1 (NoB.not _)
        have m2 := k6.cell n2 (NoB.not _)
        have m3 := k6.cell n3 (NoB.not _)
        have m4 := k6.cell n4 (NoB.not _)
        have K6 := Lib.hid k6
        clear k6 n0 n1 n2 n3 n4 hrb hba
        rw [rounds_succ]
        go_wp2_with fail
        go_quiet ((go_at_call 13; exact Calls.quiet_of_same (joinName_c _ _ _ (by decide) (by omega))))
        go_wp2_with fail
        go_ret
        exact ⟨rfl, ((KW.out.then K4.out).then K6.out).then (Keep.drewN _ _ _)⟩
      · obtain ⟨cs1, _, hc1, ps1, ats1, kk1, ss1, el1, al1, rfl, hO1⟩ := hrows 0 (qual ⟨#[78]⟩ y, e0) rfl
        have hatt := hO1.att ⟨#[]⟩ (none, 0, 0)
        rw [show (qual ⟨#[78]⟩ y, e0).2.attrs = e0.attrs from rfl, he0] at hatt
        obtain ⟨ba, oa, ca, ea, aa, rfl, hca⟩ := att_one hatt
        have hrb : rb < w4.heap.size := block_lt_of_cell (hc1 0 _ rfl)
        have hba : ba < w4.heap.size := block_lt_of_cell (hca 0 _ rfl)
        have n1 := hc1 0 _ rfl
        have n2 := hc1 2 _ rfl
        have n3 := hca 2 _ rfl
        have n4 := hca 3 _ rfl
        simp only [Nat.zero_mul, Nat.add_zero, Nat.one_mul, slV] at n1 n2 n3 n4
        clear hrows hc1 hca hatt hO1
        go_wp2_with fail
        refine wp_loop_rounds 1 ?_
        rw [rounds_succ]
        go_wp2_with fail
        go_quiet ((go_at_call 13; exact Calls.quiet_of_same (joinName_c _ _ _ (by decide) (by omega))))
        go_wp2_with fail
        go_ret
        exact ⟨rfl, ((KW.out.then K4.out).then (Keep.alloc _ _ _)).then (Keep.drewN _ _ _)⟩
    · have t3 := toList_ne hzy
      have t4 := toList_bne hzy
      have HN2 := Lib.hid hzy
      clear hzy
      by_cases hzx : z = x
      · obtain rfl : x = z := hzx.symm
        obtain ⟨lE, ⟨eo, en, ec⟩, sN, sA, e0, e1, rfl, ⟨hlen, hrw⟩, hl, he0, k4⟩ := HP.out.2 HN.out x (by unfold shWant; rw [if_neg HN.out, if_pos rfl])
        have hlen2 : lE.length = 2 := by rcases hl with rfl | rfl <;> rfl
        rw [hlen2] at hlen
        dsimp only at hlen
        subst hlen
        rcases hrw with h | ⟨rb, roff, heo, _, hrows⟩
        · rw [h] at hlen2; cases hlen2
        dsimp only at heo
        subst heo
        clear hlen2 HP
        have K4 := Lib.hid k4
        clear k4
        have t8 := toList_ne (Ne.symm HN.out)
        have t9 := toList_bne (Ne.symm HN.out)
        clear hzx
        have tq := toList_ne (qualN_ne HX.out.1 (s := y)).symm
        have j1 := HX.out.2.2.2.2.1
        rcases hl with rfl | rfl
        · obtain ⟨cs0, _, hc0, ps0, ats0, kk0, ss0, el0, al0, rfl, hO0⟩ := hrows 0 (x, e1) rfl
          obtain ⟨cs1, _, hc1, ps1, ats1, kk1, ss1, el1, al1, rfl, hO1⟩ := hrows 1 (qual ⟨#[78]⟩ y, e0) rfl
          have hatt := hO1.att ⟨#[]⟩ (none, 0, 0)
          rw [show (qual ⟨#[78]⟩ y, e0).2.attrs = e0.attrs from rfl, he0] at hatt
          obtain ⟨ba, oa, ca, ea, aa, rfl, hca⟩ := att_one hatt
          have hrb : rb < w4.heap.size := block_lt_of_cell (hc0 0 _ rfl)
          have hba : ba < w4.heap.size := block_lt_of_cell (hca 0 _ rfl)
          have n0 := hc0 0 _ rfl
          have n1 := hc1 0 _ rfl
          have n2 := hc1 2 _ rfl
          have n3 := hca 2 _ rfl
          have n4 := hca 3 _ rfl
          simp only [Nat.zero_mul, Nat.add_zero, Nat.one_mul, slV] at n0 n1 n2 n3 n4
          clear hrows hc0 hc1 hca hatt hO0 hO1
          go_wp2_with fail
          refine wp_loop_rounds 2 ?_
          rw [rounds_succ]
          go_wp2_with fail
          go_quiet ((go_at_call 13; exact Calls.quiet_of_same (joinName_c _ _ _ (by decide) (by omega))))
          go_wp2_with fail
          obtain ⟨w6, hw6⟩ : ∃ w6, w6 = (w4.alloc (.cells #[.slice (some ⟨rb, roff, none⟩) 2 ec, .slice sN.1 sN.2.1 sN.2.2, .slice sA.1 sA.2.1 sA.2.2] 40)).drewN nq := ⟨_, rfl⟩
          have k6 : Keep NoB w4 w6 := hw6 ▸ ((Keep.alloc _ _ NoB).then (Keep.drewN _ _ _))
          have r6 : w6.cell? ⟨w4.heap.size, 0, none⟩ = some (.slice (some ⟨rb, roff, none⟩) 2 ec) := by
            rw [hw6]
            exact (Keep.drewN _ _ NoB).cell (by rw [cell_cells (MapKept.heap_alloc w4 _).1]; rfl) (NoB.not _)
          rw [← hw6]
          clear hw6
          have m1 := k6.cell n1 (NoB.not _)
          have m2 := k6.cell n2 (NoB.not _)
          have m3 := k6.cell n3 (NoB.not _)
          have m4 := k6.cell n4 (NoB.not _)
          have K6 := Lib.hid k6
          clear k6 n0 n1 n2 n3 n4 hrb hba
          rw [rounds_succ]
          go_wp2_with fail
          go_quiet ((go_at_call 13; exact Calls.quiet_of_same (joinName_c _ _ _ (by decide) (by omega))))
          go_wp2_with fail
          go_ret
          exact ⟨rfl, ((KW.out.then K4.out).then K6.out).then (Keep.drewN _ _ _)⟩
        · obtain ⟨cs1, _, hc1, ps1, ats1, kk1, ss1, el1, al1, rfl, hO1⟩ := hrows 0 (qual ⟨#[78]⟩ y, e0) rfl
          have hatt := hO1.att ⟨#[]⟩ (none, 0, 0)
          rw [show (qual ⟨#[78]⟩ y, e0).2.attrs = e0.attrs from rfl, he0] at hatt
          obtain ⟨ba, oa, ca, ea, aa, rfl, hca⟩ := att_one hatt
          have hrb : rb < w4.heap.size := block_lt_of_cell (hc1 0 _ rfl)
          have hba : ba < w4.heap.size := block_lt_of_cell (hca 0 _ rfl)
          have n1 := hc1 0 _ rfl
          have n2 := hc1 2 _ rfl
          have n3 := hca 2 _ rfl
          have n4 := hca 3 _ rfl
          simp only [Nat.zero_mul, Nat.add_zero, Nat.one_mul, slV] at n1 n2 n3 n4
          clear hrows hc1 hca hatt hO1
          go_wp2_with fail
          refine wp_loop_rounds 1 ?_
          rw [rounds_succ]
          go_wp2_with fail
          go_quiet ((go_at_call 13; exact Calls.quiet_of_same (joinName_c _ _ _ (by decide) (by omega))))
          go_wp2_with fail
          go_ret
          exact ⟨rfl, ((KW.out.then K4.out).then (Keep.alloc _ _ _)).then (Keep.drewN _ _ _)⟩
      · obtain ⟨rfl, k4⟩ := HP.out.1 (.inr (by unfold shWant; rw [if_neg HN2.out, if_neg hzx]))
        have t5 := toList_ne hzx
        have t6 := toList_bne hzx
        have K4 := Lib.hid k4
        clear k4 HP hzx
        go_wp2_with (go_at_call 11; refine (schemaTypes_c _).mono ?_; rintro e w5 ⟨rfl, k5⟩; have K5 := Lib.hid k5; clear k5)
        go_ret
        exact ⟨rfl, ((KW.out.then K4.out).then (Keep.alloc _ _ _)).then K5.out⟩
end Go.Proofs.YthhjehajdcgkhaaGreatDoor
