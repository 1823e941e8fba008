/- The walk of the function that turns a given namespace into one of the syntax tree. -/
import Derived.Test.YtedgonoeeeiilaaGreatDoorIa
import Derived.Test.YtedgonoeeeiilaaGreatDoorSch
namespace Go.Proofs.YtedgonoeeeiilaaGreatDoor
open Go.RowKit

/-- A given namespace. -/
structure ISpIs (w : World) (M : Nat → Prop) (es : List (Str × IEnt)) (ns : List (Str × List Str)) (cs : List (Str × ATy)) (ac : List (Str × AAct)) (se sn sa sc : Sl) : Prop where
  elen : se.2.1 = es.length
  nlen : sn.2.1 = ns.length
  alen : sa.2.1 = ac.length
  aL : ac.length ≤ 1000000
  anod : (ac.map (·.1)).Nodup
  asz : ∀ p ∈ ac, p.1.size ≤ 1000000
  act : ac = [] ∨ ∃ b off, sa.1 = some ⟨b, off, none⟩ ∧ ∀ i nm a, ac[i]? = some (nm, a) → ∃ ps fl prs rss k s el al, CellsAt w b (off + i * 9) [.string nm, slV ps, .bool fl, slV prs, slV rss, .int .i64 k, .string s, slV el, slV al] ∧ IActIs w M a ps fl prs rss k s el al
  clen : sc.2.1 = cs.length
  cL : cs.length ≤ 1000000
  cnod : (cs.map (·.1)).Nodup
  csz : ∀ p ∈ cs, p.1.size ≤ 1000000
  com : cs = [] ∨ ∃ b off, sc.1 = some ⟨b, off, none⟩ ∧ ∀ i nm t, cs[i]? = some (nm, t) → ∃ k s el al, CellsAt w b (off + i * 5) [.string nm, .int .i64 k, .string s, slV el, slV al] ∧ ITyIs w M t (tyV k s el al)
  eL : es.length ≤ 1000000
  nL : ns.length ≤ 1000000
  enod : (es.map (·.1)).Nodup
  nnod : (ns.map (·.1)).Nodup
  esz : ∀ p ∈ es, p.1.size ≤ 1000000
  nsz : ∀ p ∈ ns, p.1.size ≤ 1000000 ∧ p.2.length ≤ 1000000
  ent : es = [] ∨ ∃ b off, se.1 = some ⟨b, off, none⟩ ∧ ∀ i nm e, es[i]? = some (nm, e) → ∃ ps ats k s el al, CellsAt w b (off + i * 8) [.string nm, slV ps, slV ats, .bool e.tags.isSome, .int .i64 k, .string s, slV el, slV al] ∧ IEntIs w M nm e ps ats k s el al
  enu : ns = [] ∨ ∃ b off, sn.1 = some ⟨b, off, none⟩ ∧ ∀ i nm vs, ns[i]? = some (nm, vs) → ∃ vl, CellsAt w b (off + i * 2) [.string nm, slV vl] ∧ vl.2.1 = vs.length ∧ StrsAt w M vs (slV vl)

/-- What is laid ahead of the loops. -/
abbrev W3 (w : World) (nm : Str) (se sn sa sc : Sl) : World :=
  ((((((w.alloc (.cells #[.string nm, .slice se.1 se.2.1 se.2.2, .slice sn.1 sn.2.1 sn.2.2, .slice sa.1 sa.2.1 sa.2.2, .slice sc.1 sc.2.1 sc.2.2] 44)).alloc (.cells #[.map none, .map none, .map none, .map none, .map none] 138)).alloc (.map #[] 0)).alloc (.map #[] 0)).alloc (.map #[] 0)).alloc (.map #[] 0)).alloc
    (.cells #[.map none, .map (some (w.heap.size + 1 + 1)), .map (some (w.heap.size + 1 + 1 + 1)), .map (some (w.heap.size + 1 + 1 + 1 + 1)), .map (some (w.heap.size + 1 + 1 + 1 + 1 + 1))] 138)

/-- What stays of it. -/
structure SpFix (wr : World) (a : Nat) (nm : Str) (se sn sa sc : Sl) : Prop where
  h0 : wr.heap[a]? = some (.cells #[.string nm, .slice se.1 se.2.1 se.2.2, .slice sn.1 sn.2.1 sn.2.2, .slice sa.1 sa.2.1 sa.2.2, .slice sc.1 sc.2.1 sc.2.2] 44 (0, 0))
  h1 : wr.heap[a + 1]? = some (.cells #[.map none, .map none, .map none, .map none, .map none] 138 (0, 0))
  h6 : wr.heap[a + 1 + 1 + 1 + 1 + 1 + 1]? = some (.cells #[.map none, .map (some (a + 1 + 1)), .map (some (a + 1 + 1 + 1)), .map (some (a + 1 + 1 + 1 + 1)), .map (some (a + 1 + 1 + 1 + 1 + 1))] 138 (0, 0))
def KS (a : Nat) : Nat → Prop := fun i => i = a + 1 + 1 ∨ i = a + 1 + 1 + 1 ∨ i = a + 1 + 1 + 1 + 1 + 1 ∨ i = a + 1 + 1 + 1 + 1
theorem SpFix.keep {w w' : World} {a : Nat} {nm : Str} {se sn sa sc : Sl} (h : SpFix w a nm se sn sa sc) (k : Keep (KS a) w w') : SpFix w' a nm se sn sa sc :=
  ⟨k.heap h.h0 (fun h => by rcases h with h | h <;> omega), k.heap h.h1 (fun h => by rcases h with h | h <;> omega), k.heap h.h6 (fun h => by rcases h with h | h <;> omega)⟩
theorem space_made (w : World) (nm : Str) (se sn sa sc : Sl) : Keep NoB w (W3 w nm se sn sa sc) ∧ SpFix (W3 w nm se sn sa sc) w.heap.size nm se sn sa sc ∧ KMap Value.string (W3 w nm se sn sa sc) (w.heap.size + 1 + 1) [] ∧ KMap Value.string (W3 w nm se sn sa sc) (w.heap.size + 1 + 1 + 1) [] ∧ KMap Value.string (W3 w nm se sn sa sc) (w.heap.size + 1 + 1 + 1 + 1 + 1) [] ∧ KMap Value.string (W3 w nm se sn sa sc) (w.heap.size + 1 + 1 + 1 + 1) [] ∧ (W3 w nm se sn sa sc).heap.size = w.heap.size + 1 + 1 + 1 + 1 + 1 + 1 + 1 := by
  obtain ⟨A, hA⟩ : ∃ A : Obj, A = .cells #[.string nm, .slice se.1 se.2.1 se.2.2, .slice sn.1 sn.2.1 sn.2.2, .slice sa.1 sa.2.1 sa.2.2, .slice sc.1 sc.2.1 sc.2.2] 44 := ⟨_, rfl⟩
  obtain ⟨B, hB⟩ : ∃ B : Obj, B = .cells #[.map none, .map none, .map none, .map none, .map none] 138 := ⟨_, rfl⟩
  obtain ⟨C, hC⟩ : ∃ C : Obj, C = .cells #[.map none, .map (some (w.heap.size + 1 + 1)), .map (some (w.heap.size + 1 + 1 + 1)), .map (some (w.heap.size + 1 + 1 + 1 + 1)), .map (some (w.heap.size + 1 + 1 + 1 + 1 + 1))] 138 := ⟨_, rfl⟩
  unfold W3
  rw [← hA, ← hB, ← hC]
  obtain ⟨w1, e1⟩ : ∃ w1, w1 = w.alloc A := ⟨_, rfl⟩
  obtain ⟨w2, e2⟩ : ∃ w2, w2 = w1.alloc B := ⟨_, rfl⟩
  obtain ⟨w3, e3⟩ : ∃ w3, w3 = w2.alloc (.map #[] 0) := ⟨_, rfl⟩
  obtain ⟨w4, e4⟩ : ∃ w4, w4 = w3.alloc (.map #[] 0) := ⟨_, rfl⟩
  obtain ⟨w5, e5⟩ : ∃ w5, w5 = w4.alloc (.map #[] 0) := ⟨_, rfl⟩
  obtain ⟨w6, e6⟩ : ∃ w6, w6 = w5.alloc (.map #[] 0) := ⟨_, rfl⟩
  rw [← e1, ← e2, ← e3, ← e4, ← e5, ← e6]
  have s1 : w1.heap.size = w.heap.size + 1 := by rw [e1, World.size_alloc]
  have s2 : w2.heap.size = w.heap.size + 1 + 1 := by rw [e2, World.size_alloc, s1]
  have s3 : w3.heap.size = w.heap.size + 1 + 1 + 1 := by rw [e3, World.size_alloc, s2]
  have s4 : w4.heap.size = w.heap.size + 1 + 1 + 1 + 1 := by rw [e4, World.size_alloc, s3]
  have s5 : w5.heap.size = w.heap.size + 1 + 1 + 1 + 1 + 1 := by rw [e5, World.size_alloc, s4]
  have s6 : w6.heap.size = w.heap.size + 1 + 1 + 1 + 1 + 1 + 1 := by rw [e6, World.size_alloc, s5]
  have k6 : Keep NoB w6 (w6.alloc C) := Keep.alloc _ _ _
  have k5 : Keep NoB w5 (w6.alloc C) := (e6 ▸ Keep.alloc w5 _ NoB : Keep NoB w5 w6).then k6
  have k4 : Keep NoB w4 (w6.alloc C) := (e5 ▸ Keep.alloc w4 _ NoB : Keep NoB w4 w5).then k5
  have k3 : Keep NoB w3 (w6.alloc C) := (e4 ▸ Keep.alloc w3 _ NoB : Keep NoB w3 w4).then k4
  have k2 : Keep NoB w2 (w6.alloc C) := (e3 ▸ Keep.alloc w2 _ NoB : Keep NoB w2 w3).then k3
  have k1 : Keep NoB w1 (w6.alloc C) := (e2 ▸ Keep.alloc w1 _ NoB : Keep NoB w1 w2).then k2
  have k0 : Keep NoB w (w6.alloc C) := (e1 ▸ Keep.alloc w _ NoB : Keep NoB w w1).then k1
  have b0 : w1.heap[w.heap.size]? = some A := e1 ▸ (MapKept.heap_alloc w A).1
  have b1 : w2.heap[w.heap.size + 1]? = some B := by rw [← s1, e2]; exact (MapKept.heap_alloc w1 B).1
  have m2 : KMap Value.string w3 (w.heap.size + 1 + 1) [] := by rw [← s2, e3]; exact KMap.made w2
  have m3 : KMap Value.string w4 (w.heap.size + 1 + 1 + 1) [] := by rw [← s3, e4]; exact KMap.made w3
  have m4 : KMap Value.string w5 (w.heap.size + 1 + 1 + 1 + 1) [] := by rw [← s4, e5]; exact KMap.made w4
  have m5 : KMap Value.string w6 (w.heap.size + 1 + 1 + 1 + 1 + 1) [] := by rw [← s5, e6]; exact KMap.made w5
  have b6 : (w6.alloc C).heap[w.heap.size + 1 + 1 + 1 + 1 + 1 + 1]? = some C := by rw [← s6]; exact (MapKept.heap_alloc w6 C).1
  subst hA hB hC
  exact ⟨k0, ⟨k1.heap b0 (NoB.not _), k2.heap b1 (NoB.not _), b6⟩, m2.keep k3 (NoB.not _), m3.keep k4 (NoB.not _), m5.keep k6 (NoB.not _), m4.keep k5 (NoB.not _), by rw [World.size_alloc, s6]⟩

/-- The loop over entity types: the first j are in the map. -/
structure EL (wb wr : World) (a : Nat) (es : List (Str × IEnt)) (j : Nat) (le : List (Str × Value)) : Prop where
  keep : Keep (KS a) wb wr
  map : KMap Value.string wr (a + 1 + 1) le
  keys : le.map (·.1) = (es.take j).map (·.1)
  ent : ∀ p ∈ le, ∃ e, (p.1, e) ∈ es ∧ AEntIs wr (fun i => i < a + 1 + 1 + 1 + 1 + 1 + 1 + 1) e.ast p.2

/-- The data of the namespace. -/
def spOf (es : List (Str × IEnt)) (ns : List (Str × List Str)) (cs : List (Str × ATy)) (ac : List (Str × AAct)) : SpD := ⟨es.map (·.1), fun n => ((kget es n).getD ⟨[], [], none⟩).ast, ns.map (·.1), fun n => (kget ns n).getD [], cs.map (·.1), fun n => (kget cs n).getD .str, ac.map (·.1), fun n => (kget ac n).getD ⟨[], none⟩⟩
def SpaceOut (w : World) (es : List (Str × IEnt)) (ns : List (Str × List Str)) (cs : List (Str × ATy)) (ac : List (Str × AAct)) (en : Ending) (w' : World) : Prop :=
  ∃ (me mn ma mc : Option Nat) (le ln la lc : List (Str × Value)), en = .returned (.tuple #[.agg #[.map none, .map me, .map mn, .map ma, .map mc], .bool true]) ∧ SpIs w' (· < w.heap.size) (spOf es ns cs ac) me mn ma mc le ln la lc ∧ Keep NoB w w'
/-- The loop over enumerations: the first j are in the map. -/
structure NL (wb wr : World) (a : Nat) (ns : List (Str × List Str)) (j : Nat) (ln : List (Str × Value)) : Prop where
  keep : Keep (· = a + 1 + 1 + 1) wb wr
  map : KMap Value.string wr (a + 1 + 1 + 1) ln
  keys : ln.map (·.1) = (ns.take j).map (·.1)
  enu : ∀ p ∈ ln, ∃ e, (p.1, e) ∈ ns ∧ AEnumIs wr (fun i => i < a + 1 + 1 + 1 + 1 + 1 + 1 + 1) e p.2
/-- The loop over common types: the first j are in the map. -/
structure CL (wb wr : World) (a : Nat) (cs : List (Str × ATy)) (j : Nat) (lc : List (Str × Value)) : Prop where
  keep : Keep (· = a + 1 + 1 + 1 + 1 + 1) wb wr
  map : KMap Value.string wr (a + 1 + 1 + 1 + 1 + 1) lc
  keys : lc.map (·.1) = (cs.take j).map (·.1)
  com : ∀ p ∈ lc, ∃ t, (p.1, t) ∈ cs ∧ CommonIs wr (fun i => i < a + 1 + 1 + 1 + 1 + 1 + 1 + 1) t p.2
/-- The loop over actions: the first j are in the map. -/
structure AL (wb wr : World) (a : Nat) (ac : List (Str × AAct)) (j : Nat) (la : List (Str × Value)) : Prop where
  keep : Keep (· = a + 1 + 1 + 1 + 1) wb wr
  map : KMap Value.string wr (a + 1 + 1 + 1 + 1) la
  keys : la.map (·.1) = (ac.take j).map (·.1)
  act : ∀ p ∈ la, ∃ t, (p.1, t) ∈ ac ∧ AActIs wr (fun i => i < a + 1 + 1 + 1 + 1 + 1 + 1 + 1) t p.2
theorem infoString : (Tryz.prog.info? 94).map (fun i => (i.zero, i.size, i.bytes)) = some (some (.string ⟨#[]⟩), 1, 16) := by kernel_rfl

set_option maxRecDepth 100000 in
set_option maxHeartbeats 8000000 in
theorem schemaSpace_c (w0 : World) (M : Nat → Prop) (nm : Str) (es : List (Str × IEnt)) (ns : List (Str × List Str)) (cs : List (Str × ATy)) (ac : List (Str × AAct)) (se sn sa sc : Sl) (h : ISpIs w0 M es ns cs ac se sn sa sc) (w : World) (k0 : Keep NoB w0 w) :
    Calls Tryz.prog 31 #[.agg #[.string nm, .slice se.1 se.2.1 se.2.2, .slice sn.1 sn.2.1 sn.2.2, .slice sa.1 sa.2.1 sa.2.2, .slice sc.1 sc.2.1 sc.2.2]] w (SpaceOut w es ns cs ac) := by
  have hmm := @run_makeMap Tryz.prog
  have HA := Lib.hid (And.intro h k0)
  clear h k0
  go_enter Tryz.func31, Tryz.ntmps31
  go_wp2_with fail
  clear hmm
  obtain ⟨a, ha⟩ : ∃ a, a = w.heap.size := ⟨_, rfl⟩
  obtain ⟨wb, hwb⟩ : ∃ wb, wb = W3 w nm se sn sa sc := ⟨_, rfl⟩
  have HB := Lib.hid (space_made w nm se sn sa sc)
  rw [← hwb, ← ha] at HB
  unfold W3 at hwb
  rw [← hwb, ← ha]
  clear hwb
  have HS := Lib.hid ha
  clear ha
  obtain ⟨n, hn⟩ : ∃ n, n = es.length := ⟨_, rfl⟩
  have hnn : se.2.1 = n := by rw [hn]; exact HA.out.1.elen
  have hnL : n ≤ 1000000 := by rw [hn]; exact HA.out.1.eL
  have HN := Lib.hid hn
  clear hn
  obtain ⟨so, sn0, sc0⟩ := se
  dsimp only at hnn
  subst hnn
  dsimp only at HA HB ⊢
  go_loopg [30] sn0 (fun k i wr => ∃ j : Nat, j + k = sn0 ∧ i = .int .i64 j ∧ (KMap Value.string wr (a + 1 + 1 + 1) [] ∧ KMap Value.string wr (a + 1 + 1 + 1 + 1 + 1) [] ∧ KMap Value.string wr (a + 1 + 1 + 1 + 1) []) ∧ ∃ le, EL wb wr a es j le)
  case atStart => exact ⟨0, by omega, rfl, ⟨HB.out.2.2.2.1, HB.out.2.2.2.2.1, HB.out.2.2.2.2.2.1⟩, [], Keep.refl _ _, HB.out.2.2.1, by simp, fun _ h => by simp at h⟩
  case round =>
    obtain ⟨j, hj, rfl, hm3, le, hrow⟩ := hrel
    have HR := Lib.hid (And.intro hm3 hrow)
    clear hm3 hrow
    by_cases hlt : j < sn0
    · obtain ⟨hI, k0⟩ := HA.out
      have hfix := HB.out.2.1.keep HR.out.2.keep
      have hle : w0.heap.size ≤ a := by have := k0.size; have := HS.out; omega
      have kwr : Keep NoB w0 wr := (k0.then HB.out.1).trans HR.out.2.keep (fun _ _ h => h) (fun i hi h => by rcases h with h | h <;> omega)
      have hne := HN.out
      rcases hI.ent with rfl | ⟨b, off, hso, hc⟩
      · simp at hne; omega
      · obtain rfl : so = some ⟨b, off, none⟩ := hso
        obtain ⟨⟨nj, e⟩, hl⟩ : ∃ x, es[j]? = some x := ⟨_, List.getElem?_eq_getElem (by omega)⟩
        obtain ⟨ps, ats, k, sj, el, al, hcj, hIj⟩ := hc j _ _ hl
        have hcw := hcj.keep kwr (NoB.not _)
        have f0 := hcw 0 _ rfl
        rw [Nat.add_zero] at f0
        have f1 := hcw 1 _ rfl
        have f2 := hcw 2 _ rfl
        have f3 := hcw 3 _ rfl
        have f4 := hcw 4 _ rfl
        have f5 := hcw 5 _ rfl
        have f6 := hcw 6 _ rfl
        have f7 := hcw 7 _ rfl
        have k1 := Keep.alloc wr (.cells #[.string nj, .slice ps.1 ps.2.1 ps.2.2, .slice ats.1 ats.2.1 ats.2.2, .bool e.tags.isSome, .int .i64 k, .string sj, .slice el.1 el.2.1 el.2.2, .slice al.1 al.2.1 al.2.2] 53) NoB
        have hb1 := (MapKept.heap_alloc wr (.cells #[.string nj, .slice ps.1 ps.2.1 ps.2.2, .slice ats.1 ats.2.1 ats.2.2, .bool e.tags.isSome, .int .i64 k, .string sj, .slice el.1 el.2.1 el.2.2, .slice al.1 al.2.1 al.2.2] 53)).1
        have HC := Lib.hid (schemaEntity_c w0 M nj e ps ats k sj el al hIj _ (kwr.then k1))
        have HP := Lib.hid (And.intro hl (And.intro k1 (And.intro hb1 (And.intro hfix (And.intro hle kwr)))))
        clear hI k0 hfix hle kwr hne hc hl hcj hIj hcw k1 hb1
        go_wp2_with fail
        refine HC.out.mono ?_
        rintro en w3 ⟨a0, sb, c0, d, rfl, hone, hAE, k3⟩
        clear f0 f1 f2 f3 f4 f5 f6 f7
        obtain ⟨hl, k1, hb1, hfix, hle, kwr⟩ := HP.out
        have k4 := Keep.alloc w3 (.cells #[.map a0, .slice sb.1 sb.2.1 sb.2.2, .map c0, d] 185) NoB
        have k14 := (k1.then k3).then k4
        have hb4 := (k3.then k4).heap hb1 (NoB.not _)
        have hfix4 := hfix.keep (k14.mono fun _ _ h => h.elim)
        have g0 : (w3.alloc (.cells #[.map a0, .slice sb.1 sb.2.1 sb.2.2, .map c0, d] 185)).cell? ⟨wr.heap.size, 0, none⟩ = some (.string nj) := by rw [cell_cells hb4]; rfl
        have g6 : (w3.alloc (.cells #[.map a0, .slice sb.1 sb.2.1 sb.2.2, .map c0, d] 185)).cell? ⟨a + 1 + 1 + 1 + 1 + 1 + 1, 1, none⟩ = some (.map (some (a + 1 + 1))) := by rw [cell_cells hfix4.h6]; rfl
        have hm4 := HR.out.2.map.keep k14 (NoB.not _)
        obtain ⟨ob, hupd, hm5⟩ := hm4.update (strKey Tryz.underlying188) Tryz.underlying127 nj (.agg #[.map a0, .slice sb.1 sb.2.1 sb.2.2, .map c0, d])
        have hst := fun w a m => run_store Tryz.prog w a d m hone
        have HQ := Lib.hid (And.intro hAE (And.intro k3 (And.intro k4 (And.intro k14 (And.intro hm4 hm5)))))
        clear hl k1 hb1 hfix hle kwr hAE k3 k4 k14 hb4 hfix4 hm4 hm5
        go_wp2_with fail
        go_roundg (gk - 1)
        case measure => omega
        case rel =>
          obtain ⟨hl, k1, hb1, hfix, hle, kwr⟩ := HP.out
          obtain ⟨hAE, k3, k4, k14, hm4, hm5⟩ := HQ.out
          obtain ⟨hI, k0⟩ := HA.out
          have hne := HN.out
          have hjl : j < es.length := by omega
          have htk : es.take (j + 1) = es.take j ++ [(nj, e)] := by
            rw [List.take_succ_eq_append_getElem hjl]
            have := List.getElem?_eq_getElem hjl
            rw [hl] at this
            rw [← Option.some.inj this]
          have hnt : ((es.take (j + 1)).map (·.1)).Nodup := (List.Sublist.map _ (List.take_sublist _ _)).nodup hI.enod
          have hfresh : ∀ q ∈ le, q.1 ≠ nj := by
            intro q hq e
            rw [htk, List.map_append, ← HR.out.2.keys] at hnt
            exact (List.nodup_append.1 hnt).2.2 q.1 (List.mem_map.2 ⟨q, hq, rfl⟩) nj (by simp) e
          rw [kput_fresh _ hfresh] at hm5
          have k5 : Keep (· = a + 1 + 1) (w3.alloc (.cells #[.map a0, .slice sb.1 sb.2.1 sb.2.2, .map c0, d] 185)) (ChangeMaps.setBlock (w3.alloc (.cells #[.map a0, .slice sb.1 sb.2.1 sb.2.2, .map c0, d] 185)) (a + 1 + 1) ob) := Keep.setBlock _ _ _ (fun _ => rfl)
          have hszb := HB.out.2.2.2.2.2.2
          have hszr := HR.out.2.keep.size
          refine ⟨j + 1, by omega, by go_num, ⟨(HR.out.1.1.keep k14 (NoB.not _)).keep k5 (by omega), (HR.out.1.2.1.keep k14 (NoB.not _)).keep k5 (by omega), (HR.out.1.2.2.keep k14 (NoB.not _)).keep k5 (by omega)⟩, _, ⟨(HR.out.2.keep.then k14).trans k5 (fun _ _ h => h) (fun _ _ h => .inl h), hm5, by rw [List.map_append, HR.out.2.keys, htk, List.map_append]; rfl, fun p hp => ?_⟩⟩
          rcases List.mem_append.1 hp with h | h
          · obtain ⟨e', h1, h2⟩ := HR.out.2.ent p h
            exact ⟨e', h1, AEntIs.keep.k k5 (fun i hi h => by show i < _; omega) (fun _ _ h => h) (AEntIs.keep.k (M' := fun i => i < a + 1 + 1 + 1 + 1 + 1 + 1 + 1) k14 (fun _ _ h => h.elim) (fun _ _ h => h) h2)⟩
          · simp only [List.mem_singleton] at h
            subst h
            refine ⟨e, List.mem_of_getElem? hl, AEntIs.keep.k k5 (fun i hi h => ?_) (fun i hi (h : i < a + 1 + 1 + 1 + 1 + 1 + 1 + 1) => ?_) (AEntIs.keep.k (M' := fun i => i < (wr.alloc (.cells #[.string nj, .slice ps.1 ps.2.1 ps.2.2, .slice ats.1 ats.2.1 ats.2.2, .bool e.tags.isSome, .int .i64 k, .string sj, .slice el.1 el.2.1 el.2.2, .slice al.1 al.2.1 al.2.2] 53)).heap.size) k4 (fun _ _ h => h.elim) (fun _ _ h => h) hAE)⟩
            · show i < _
              rw [World.size_alloc]; omega
            · show i < _
              rw [World.size_alloc]; omega
    · have hjn : j = sn0 := by omega
      subst hjn
      have HJ := Lib.hid hj
      have f2 : wr.cell? ⟨a, 2, none⟩ = some (.slice sn.1 sn.2.1 sn.2.2) := by rw [cell_cells (HB.out.2.1.keep HR.out.2.keep).h0]; rfl
      clear hj hlt
      go_wp2_with fail
      clear f2
      obtain ⟨hm3, hEL⟩ := HR.out
      have HR1 := Lib.hid (And.intro hm3 (And.intro hEL HR.out.2.map))
      obtain ⟨wc1, hwc1⟩ : ∃ wc1 : World, wc1 = wr := ⟨_, rfl⟩
      rw [← hwc1] at HR1 hm3 ⊢
      clear hEL HR hwc1
      obtain ⟨n2, hn2⟩ : ∃ n2, n2 = ns.length := ⟨_, rfl⟩
      have hnn2 : sn.2.1 = n2 := by rw [hn2]; exact HA.out.1.nlen
      have hnL2 : n2 ≤ 1000000 := by rw [hn2]; exact HA.out.1.nL
      have HN2 := Lib.hid hn2
      have HM3 := Lib.hid hm3.1
      have HM5 := Lib.hid hm3.2.1
      have HM4 := Lib.hid hm3.2.2
      clear hn2 hm3
      obtain ⟨no, nn0, nc0⟩ := sn
      dsimp only at hnn2
      subst hnn2
      dsimp only at HA HB HR1 ⊢
      obtain ⟨iU, hiU, hzU, hsU, hbU⟩ := info_parts infoString
      have HU := Lib.hid (And.intro hiU (And.intro hzU (And.intro hsU hbU)))
      clear hiU hzU hsU hbU
      go_loopg [51] nn0 (fun k i wr => ∃ j : Nat, j + k = nn0 ∧ i = .int .i64 j ∧ ∃ ln, NL wc1 wr a ns j ln)
      case atStart => exact ⟨0, by omega, rfl, [], Keep.refl _ _, HM3.out, by simp, fun _ h => by simp at h⟩
      case round =>
        obtain ⟨j2, hj2, rfl, ln, hrow⟩ := hrel
        have HR := Lib.hid hrow
        clear hrow
        by_cases hlt : j2 < nn0
        · obtain ⟨hI, k0⟩ := HA.out
          have hfix := (HB.out.2.1.keep HR1.out.2.1.keep).keep (HR.out.keep.mono fun _ _ h => .inr (.inl h))
          have hle : w0.heap.size ≤ a := by have := k0.size; have := HS.out; omega
          have kwr : Keep NoB w0 wr := ((k0.then HB.out.1).trans HR1.out.2.1.keep (M'' := NoB) (fun _ _ h => h) (fun i hi h => by rcases h with h | h <;> omega)).trans HR.out.keep (fun _ _ h => h) (fun i hi h => by omega)
          have hne := HN2.out
          rcases hI.enu with rfl | ⟨b, off, hso, hc⟩
          · simp at hne; omega
          · obtain rfl : no = some ⟨b, off, none⟩ := hso
            obtain ⟨⟨nj, vs⟩, hl⟩ : ∃ x, ns[j2]? = some x := ⟨_, List.getElem?_eq_getElem (by omega)⟩
            obtain ⟨⟨vo, vn, vc⟩, hcj, hvn, hIj⟩ := hc j2 _ _ hl
            dsimp only [slV] at hcj hvn hIj
            have hvL : vn ≤ 1000000 := by rw [hvn]; exact (hI.nsz _ (List.mem_of_getElem? hl)).2
            have hcw := hcj.keep kwr (NoB.not _)
            have f0 := hcw 0 _ rfl
            rw [Nat.add_zero] at f0
            have f1 := hcw 1 _ rfl
            have HP := Lib.hid (And.intro hl (And.intro hvn (And.intro hIj (And.intro hfix (And.intro hle kwr)))))
            clear hI k0 hfix hle kwr hne hc hl hcj hvn hIj hcw
            obtain ⟨wo, rfl⟩ : ∃ wo : World, wo = wr := ⟨_, rfl⟩
            go_wp2_with fail
            clear f0 f1
            go_loopg [59] vn (fun k i w2 => ∃ i3 : Nat, i3 + k = vn ∧ i = .int .i64 i3 ∧ Keep NoB wo w2 ∧ wo.heap.size + 2 ≤ w2.heap.size ∧ w2.heap[wo.heap.size]? = some (.cells #[.string nj, .slice vo vn vc] 93 (0, 0)) ∧ ∃ sl, w2.heap[wo.heap.size + 1]? = some (.cells #[.map none, sl] 190 (0, 0)) ∧ w2.ownsRow (wo.heap.size + 2) 94 1 sl i3 ((vs.take i3).map Value.string))
            case atStart =>
              refine ⟨0, by omega, rfl, (Keep.alloc _ _ NoB).then (Keep.alloc _ _ NoB), by simp, ?_, .slice none 0 0, ?_, ⟨rfl, .inl ⟨rfl, rfl⟩⟩⟩
              · exact (Keep.alloc _ _ NoB).heap (MapKept.heap_alloc wo _).1 (NoB.not _)
              · have h := (MapKept.heap_alloc (wo.alloc (.cells #[.string nj, .slice vo vn vc] 93)) (.cells #[.map none, .slice none 0 0] 190)).1
                rw [World.size_alloc] at h; exact h
            case round =>
              obtain ⟨i3, hi3, rfl, hk, hsz, hb0, sl, hb1, hown⟩ := hrel
              have HR3 := Lib.hid (And.intro hk (And.intro hsz (And.intro hb0 (And.intro hb1 hown))))
              by_cases hlt3 : i3 < vn
              · obtain ⟨ov, c2, he, h⟩ := HP.out.2.2.1
                simp only [Value.slice.injEq] at he
                obtain ⟨he1, hx, he2⟩ := he
                clear hx
                rcases h with h0 | ⟨bv, offv, hov, hMv, hcell⟩
                · have := HP.out.2.1; omega
                obtain rfl : vo = some ⟨bv, offv, none⟩ := he1.trans hov
                have hcv := (hcell i3 (by have := HP.out.2.1; omega)).2.keep (HP.out.2.2.2.2.2.then hk) (NoB.not _) 0 _ rfl
                simp only [Nat.mul_one, Nat.add_zero] at hcv
                obtain ⟨vj, hvj⟩ : ∃ vj, vj = vs.getD i3 ⟨#[]⟩ := ⟨_, rfl⟩
                rw [← hvj] at hcv
                have HV := Lib.hid hvj
                have hsl3 : wr.cell? ⟨wo.heap.size + 1, 1, none⟩ = some sl := by rw [cell_cells hb1]; rfl
                have hfz := frozen_cells hb1 1
                clear hov hMv hcell he1 he2 hk hsz hb0 hb1 hown hvj
                go_wp2_with (at_builtin; refine wpList_append_own _ rfl _ _ 147 rfl (wo.heap.size + 2) 94 iU _ 1 16 Tryz.underlying147 HU.out.1 HU.out.2.1 HU.out.2.2.1 HU.out.2.2.2 rfl (by decide) _ _ _ rfl (HR3.out.2.2.2.2.alloc _) ⟨wr.heap.size, 0, none⟩ 1 1 [.string vj] rfl rfl ?c1 ?c2 ?c3 ?c4 ?c5 ?_)
                case c1 =>
                  intro q u hq
                  rcases q with _ | q
                  · cases hq; exact cell_cells (MapKept.heap_alloc wr _).1 0
                  · cases hq
                case c2 => intro u hu; simp only [List.mem_singleton] at hu; subst hu; rfl
                case c3 => unfold maxLen; omega
                case c4 => omega
                case c5 =>
                  have h1 := HR3.out.2.1
                  rw [World.size_alloc]; omega
                intro v' w4 hown4 hgrow _
                obtain ⟨g, cap, rfl⟩ := owns_some hown4
                have kg := grown_keep HR3.out.2.2.2.2 hgrow
                have ka : Keep (fun k => wo.heap.size + 2 ≤ k) wr w4 := (Keep.alloc wr (.cells #[.string vj] 94) NoB).first kg
                have hb4 := ka.heap HR3.out.2.2.2.1 (fun h => by omega)
                have hsl4 : w4.cell? ⟨wo.heap.size + 1, 1, none⟩ = some sl := by rw [cell_cells hb4]; rfl
                have hfz4 := frozen_cells hb4 1
                have HG := Lib.hid (And.intro hown4 (And.intro ka hb4))
                clear hown4 hgrow kg ka hb4 hsl3 hfz hcv
                go_wp2_with fail
                clear hsl4 hfz4
                go_roundg (gk - 1)
                case measure => omega
                case rel =>
                  obtain ⟨hown4, ka, hb4⟩ := HG.out
                  obtain ⟨hk, hsz, hb0, hb1, hown⟩ := HR3.out
                  have k5 := Keep.setCell (M := (· = wo.heap.size + 1)) w4 ⟨wo.heap.size + 1, 1, none⟩ (.slice (some ⟨g, 0, none⟩) (i3 + 1) cap) (fun _ => rfl)
                  have hil : i3 < vs.length := by have := HP.out.2.1; omega
                  have hv : vj = vs[i3] := by rw [HV.out, List.getD_eq_getElem?_getD, List.getElem?_eq_getElem hil]; rfl
                  refine ⟨i3 + 1, by omega, by go_num, (hk.trans ka (M'' := NoB) (fun _ _ h => h) (fun i hi h => by omega)).trans k5 (fun _ _ h => h) (fun i hi h => by omega), Nat.le_trans (Nat.le_trans hsz ka.size) k5.size, k5.heap (ka.heap hb0 (fun h => by omega)) (fun h => by omega), _, setCell_cells hb4 1 _, ?_⟩
                  rw [List.take_succ_eq_append_getElem hil, List.map_append, ← hv, List.map_take]
                  exact World.ownsRow.keep (M := (· = wo.heap.size + 1)) hown4 k5 (fun i hi h => by omega)
              · have hin : i3 = vn := by omega
                subst hin
                obtain ⟨nn, cc, oo, hsl⟩ : ∃ nn cc oo, sl = Value.slice oo nn cc := by
                  rcases hown.2 with ⟨h, _⟩ | ⟨g, cap, cur, h, _⟩ <;> exact ⟨_, _, _, h⟩
                subst hsl
                have HI3 := Lib.hid hi3
                have hfixr := HP.out.2.2.2.1.keep (hk.mono fun _ _ h => h.elim)
                have g0 : wr.cell? ⟨wo.heap.size, 0, none⟩ = some (.string nj) := by rw [cell_cells hb0]; rfl
                have g1 : wr.cell? ⟨wo.heap.size + 1, 0, none⟩ = some (.map none) := by rw [cell_cells hb1]; rfl
                have g2 : wr.cell? ⟨wo.heap.size + 1, 1, none⟩ = some (.slice oo nn cc) := by rw [cell_cells hb1]; rfl
                have g6 : wr.cell? ⟨a + 1 + 1 + 1 + 1 + 1 + 1, 2, none⟩ = some (.map (some (a + 1 + 1 + 1))) := by rw [cell_cells hfixr.h6]; rfl
                obtain ⟨ob, hupd, hm5⟩ := (HR.out.map.keep hk (NoB.not _)).update (strKey Tryz.underlying188) Tryz.underlying129 nj (.agg #[.map none, .slice oo nn cc])
                have HQ := Lib.hid (And.intro hfixr hm5)
                clear hi3 hlt3 hk hsz hb0 hb1 hown hfixr hm5
                go_wp2_with fail
                go_roundg (nn0 - (j2 + 1))
                case measure => omega
                case rel =>
                  obtain ⟨hk, hsz, hb0, hb1, hown⟩ := HR3.out
                  obtain ⟨hl, hvn, hIj, hfix, hle, kwr⟩ := HP.out
                  obtain ⟨hfixr, hm5⟩ := HQ.out
                  obtain ⟨hI, k0⟩ := HA.out
                  have hne := HN2.out
                  have hjl : j2 < ns.length := by omega
                  have htk : ns.take (j2 + 1) = ns.take j2 ++ [(nj, vs)] := by
                    rw [List.take_succ_eq_append_getElem hjl]
                    have := List.getElem?_eq_getElem hjl
                    rw [hl] at this
                    rw [← Option.some.inj this]
                  have hnt : ((ns.take (j2 + 1)).map (·.1)).Nodup := (List.Sublist.map _ (List.take_sublist _ _)).nodup hI.nnod
                  have hfresh : ∀ q ∈ ln, q.1 ≠ nj := by
                    intro q hq e
                    rw [htk, List.map_append, ← HR.out.keys] at hnt
                    exact (List.nodup_append.1 hnt).2.2 q.1 (List.mem_map.2 ⟨q, hq, rfl⟩) nj (by simp) e
                  rw [kput_fresh _ hfresh] at hm5
                  have k5 : Keep (· = a + 1 + 1 + 1) wr (ChangeMaps.setBlock wr (a + 1 + 1 + 1) ob) := Keep.setBlock _ _ _ (fun _ => rfl)
                  have hszb := HB.out.2.2.2.2.2.2
                  have hszr := HR1.out.2.1.keep.size
                  have hszo := HR.out.keep.size
                  have htv : vs.take i3 = vs := by rw [hvn]; exact List.take_length
                  rw [htv] at hown
                  refine ⟨j2 + 1, by omega, by go_num, _, ⟨(HR.out.keep.then hk).trans k5 (fun _ _ h => h) (fun _ _ h => h), hm5, by rw [List.map_append, HR.out.keys, htk, List.map_append]; rfl, fun p hp => ?_⟩⟩
                  rcases List.mem_append.1 hp with h | h
                  · obtain ⟨e', h1, h2⟩ := HR.out.enu p h
                    exact ⟨e', h1, AEnumIs.keep.k k5 (fun i hi h => by show i < _; omega) (fun _ _ h => h) (AEnumIs.keep.k (M' := fun i => i < a + 1 + 1 + 1 + 1 + 1 + 1 + 1) hk (fun _ _ h => h.elim) (fun _ _ h => h) h2)⟩
                  · simp only [List.mem_singleton] at h
                    subst h
                    have hst := (ownsRow_strs (M := fun i => i < a + 1 + 1 + 1 + 1 + 1 + 1 + 1) hown (fun i h => by show i < _; omega)).2
                    exact ⟨vs, List.mem_of_getElem? hl, none, _, rfl, StrsAt.keep.k k5 (fun i hi h => by show i < _; omega) (fun _ _ h => h) hst⟩
        · have hjn : j2 = nn0 := by omega
          subst hjn
          have HJ2 := Lib.hid hj2
          have hfixw := (HB.out.2.1.keep HR1.out.2.1.keep).keep (HR.out.keep.mono fun _ _ h => .inr (.inl h))
          have f3 : wr.cell? ⟨a, 3, none⟩ = some (.slice sa.1 sa.2.1 sa.2.2) := by rw [cell_cells hfixw.h0]; rfl
          have HF0 := Lib.hid hfixw
          clear hj2 hlt hfixw
          obtain ⟨n4, hn4⟩ : ∃ n4, n4 = ac.length := ⟨_, rfl⟩
          have hnn4 : sa.2.1 = n4 := by rw [hn4]; exact HA.out.1.alen
          have hnL4 : n4 ≤ 1000000 := by rw [hn4]; exact HA.out.1.aL
          have HN4 := Lib.hid hn4
          have HMA := Lib.hid (HM4.out.keep HR.out.keep (by omega))
          clear hn4
          obtain ⟨ao, an0, ac0⟩ := sa
          dsimp only at hnn4 f3
          subst hnn4
          go_wp2_with fail
          clear f3
          obtain ⟨wc3, hwc3⟩ : ∃ wc3 : World, wc3 = wr := ⟨_, rfl⟩
          subst hwc3
          try dsimp only at HA HB HF0 ⊢
          go_loopg [79] an0 (fun k i wx => ∃ j4 : Nat, j4 + k = an0 ∧ i = .int .i64 j4 ∧ ∃ la, AL wc3 wx a ac j4 la)
          case atStart => exact ⟨0, by omega, rfl, [], Keep.refl _ _, HMA.out, by simp, fun _ h => by simp at h⟩
          case round =>
            obtain ⟨j4, hj4, rfl, la, hrow⟩ := hrel
            have HL4 := Lib.hid hrow
            clear hrow
            have hszb := HB.out.2.2.2.2.2.2
            have hszw : a + 1 + 1 + 1 + 1 + 1 + 1 + 1 ≤ wr.heap.size := by
              have h1 := HR1.out.2.1.keep.size
              have h2 := HR.out.keep.size
              have h3 := HL4.out.keep.size
              omega
            by_cases hlt : j4 < an0
            · obtain ⟨hI, k0⟩ := HA.out
              have hfix := HF0.out.keep (HL4.out.keep.mono fun _ _ h => .inr (.inr (.inr h)))
              have hle : w0.heap.size ≤ a := by have := k0.size; have := HS.out; omega
              have kwr : Keep NoB w0 wr := (((k0.then HB.out.1).trans HR1.out.2.1.keep (M'' := NoB) (fun _ _ h => h) (fun i hi h => by rcases h with h | h <;> omega)).trans HR.out.keep (M'' := NoB) (fun _ _ h => h) (fun i hi h => by omega)).trans HL4.out.keep (fun _ _ h => h) (fun i hi h => by omega)
              have hne := HN4.out
              rcases hI.act with rfl | ⟨b, off, hso, hc⟩
              · simp at hne; omega
              · obtain rfl : ao = some ⟨b, off, none⟩ := hso
                obtain ⟨⟨nj, t⟩, hl⟩ : ∃ x, ac[j4]? = some x := ⟨_, List.getElem?_eq_getElem (by omega)⟩
                obtain ⟨ps, fl, prs, rss, k, sj, el, al, hcj, hIj⟩ := hc j4 _ _ hl
                have hcw := hcj.keep kwr (NoB.not _)
                have f0 := hcw 0 _ rfl
                rw [Nat.add_zero] at f0
                have f1 := hcw 1 _ rfl
                have f2 := hcw 2 _ rfl
                have f3 := hcw 3 _ rfl
                have f4 := hcw 4 _ rfl
                have f5 := hcw 5 _ rfl
                have f6 := hcw 6 _ rfl
                have f7 := hcw 7 _ rfl
                have f8 := hcw 8 _ rfl
                have k1 := Keep.alloc wr (.cells #[.string nj, .slice ps.1 ps.2.1 ps.2.2, .bool fl, .slice prs.1 prs.2.1 prs.2.2, .slice rss.1 rss.2.1 rss.2.2, .int .i64 k, .string sj, .slice el.1 el.2.1 el.2.2, .slice al.1 al.2.1 al.2.2] 32) NoB
                have hb1 := (MapKept.heap_alloc wr (.cells #[.string nj, .slice ps.1 ps.2.1 ps.2.2, .bool fl, .slice prs.1 prs.2.1 prs.2.2, .slice rss.1 rss.2.1 rss.2.2, .int .i64 k, .string sj, .slice el.1 el.2.1 el.2.2, .slice al.1 al.2.1 al.2.2] 32)).1
                have HC := Lib.hid (schemaAction_c w0 M nj t ps fl prs rss k sj el al hIj _ (kwr.then k1))
                have HP := Lib.hid (And.intro hl (And.intro k1 (And.intro hb1 (And.intro hfix (And.intro hle kwr)))))
                clear hI k0 hfix hle kwr hne hc hl hcj hIj hcw k1 hb1
                go_wp2_with fail
                refine HC.out.mono ?_
                rintro en w3 ⟨pv, tp, rfl, hAE, k3⟩
                clear f0 f1 f2 f3 f4 f5 f6 f7 f8
                obtain ⟨hl, k1, hb1, hfix, hle, kwr⟩ := HP.out
                have k4 := Keep.alloc w3 (.cells #[.map none, .slice pv.1 pv.2.1 pv.2.2, .pointer tp] 194) NoB
                have k14 := (k1.then k3).then k4
                have hb4 := (k3.then k4).heap hb1 (NoB.not _)
                have hfix4 := hfix.keep (k14.mono fun _ _ h => h.elim)
                have g0 : (w3.alloc (.cells #[.map none, .slice pv.1 pv.2.1 pv.2.2, .pointer tp] 194)).cell? ⟨wr.heap.size, 0, none⟩ = some (.string nj) := by rw [cell_cells hb4]; rfl
                have g6 : (w3.alloc (.cells #[.map none, .slice pv.1 pv.2.1 pv.2.2, .pointer tp] 194)).cell? ⟨a + 1 + 1 + 1 + 1 + 1 + 1, 3, none⟩ = some (.map (some (a + 1 + 1 + 1 + 1))) := by rw [cell_cells hfix4.h6]; rfl
                have hm4 := HL4.out.map.keep k14 (NoB.not _)
                obtain ⟨ob, hupd, hm5⟩ := hm4.update (strKey Tryz.underlying94) Tryz.underlying131 nj (.agg #[.map none, .slice pv.1 pv.2.1 pv.2.2, .pointer tp])
                have HQ := Lib.hid (And.intro hAE (And.intro k3 (And.intro k4 (And.intro k14 (And.intro hm4 hm5)))))
                clear hl k1 hb1 hfix hle kwr hAE k3 k4 k14 hb4 hfix4 hm4 hm5
                go_wp2_with fail
                go_roundg (gk - 1)
                case measure => omega
                case rel =>
                  obtain ⟨hl, k1, hb1, hfix, hle, kwr⟩ := HP.out
                  obtain ⟨hAE, k3, k4, k14, hm4, hm5⟩ := HQ.out
                  obtain ⟨hI, k0⟩ := HA.out
                  have hne := HN4.out
                  have hjl : j4 < ac.length := by omega
                  have htk : ac.take (j4 + 1) = ac.take j4 ++ [(nj, t)] := by
                    rw [List.take_succ_eq_append_getElem hjl]
                    have := List.getElem?_eq_getElem hjl
                    rw [hl] at this
                    rw [← Option.some.inj this]
                  have hnt : ((ac.take (j4 + 1)).map (·.1)).Nodup := (List.Sublist.map _ (List.take_sublist _ _)).nodup hI.anod
                  have hfresh : ∀ q ∈ la, q.1 ≠ nj := by
                    intro q hq e
                    rw [htk, List.map_append, ← HL4.out.keys] at hnt
                    exact (List.nodup_append.1 hnt).2.2 q.1 (List.mem_map.2 ⟨q, hq, rfl⟩) nj (by simp) e
                  rw [kput_fresh _ hfresh] at hm5
                  have k5 : Keep (· = a + 1 + 1 + 1 + 1) (w3.alloc (.cells #[.map none, .slice pv.1 pv.2.1 pv.2.2, .pointer tp] 194)) (ChangeMaps.setBlock (w3.alloc (.cells #[.map none, .slice pv.1 pv.2.1 pv.2.2, .pointer tp] 194)) (a + 1 + 1 + 1 + 1) ob) := Keep.setBlock _ _ _ (fun _ => rfl)
                  refine ⟨j4 + 1, by omega, by go_num, _, ⟨(HL4.out.keep.then k14).trans k5 (fun _ _ h => h) (fun _ _ h => h), hm5, by rw [List.map_append, HL4.out.keys, htk, List.map_append]; rfl, fun p hp => ?_⟩⟩
                  rcases List.mem_append.1 hp with h | h
                  · obtain ⟨e', h1, h2⟩ := HL4.out.act p h
                    exact ⟨e', h1, AActIs.keep.k k5 (fun i hi h => by show i < _; omega) (fun _ _ h => h) (AActIs.keep.k (M' := fun i => i < a + 1 + 1 + 1 + 1 + 1 + 1 + 1) k14 (fun _ _ h => h.elim) (fun _ _ h => h) h2)⟩
                  · simp only [List.mem_singleton] at h
                    subst h
                    refine ⟨t, List.mem_of_getElem? hl, AActIs.keep.k k5 (fun i hi h => ?_) (fun i hi (h : i < a + 1 + 1 + 1 + 1 + 1 + 1 + 1) => ?_) (AActIs.keep.k (M' := fun i => i < (wr.alloc (.cells #[.string nj, .slice ps.1 ps.2.1 ps.2.2, .bool fl, .slice prs.1 prs.2.1 prs.2.2, .slice rss.1 rss.2.1 rss.2.2, .int .i64 k, .string sj, .slice el.1 el.2.1 el.2.2, .slice al.1 al.2.1 al.2.2] 32)).heap.size) k4 (fun _ _ h => h.elim) (fun _ _ h => h) hAE)⟩
                    · show i < _
                      rw [World.size_alloc]; omega
                    · show i < _
                      rw [World.size_alloc]; omega
            · have hjn : j4 = an0 := by omega
              subst hjn
              have HJ4 := Lib.hid hj4
              have hfixw := HF0.out.keep (HL4.out.keep.mono fun _ _ h => .inr (.inr (.inr h)))
              have f4 : wr.cell? ⟨a, 4, none⟩ = some (.slice sc.1 sc.2.1 sc.2.2) := by rw [cell_cells hfixw.h0]; rfl
              have HF := Lib.hid hfixw
              clear hj4 hlt hfixw hszb hszw
              go_wp2_with fail
              clear f4
              obtain ⟨wc2, hwc2⟩ : ∃ wc2 : World, wc2 = wr := ⟨_, rfl⟩
              subst hwc2
              obtain ⟨n3, hn3⟩ : ∃ n3, n3 = cs.length := ⟨_, rfl⟩
              have hnn3 : sc.2.1 = n3 := by rw [hn3]; exact HA.out.1.clen
              have hnL3 : n3 ≤ 1000000 := by rw [hn3]; exact HA.out.1.cL
              have HN3 := Lib.hid hn3
              have HMC := Lib.hid ((HM5.out.keep HR.out.keep (by omega)).keep HL4.out.keep (by omega))
              clear hn3
              obtain ⟨co, cn0, cc0⟩ := sc
              dsimp only at hnn3
              subst hnn3
              dsimp only at HA HB HF ⊢
              go_loopg [100] cn0 (fun k i wx => ∃ j3 : Nat, j3 + k = cn0 ∧ i = .int .i64 j3 ∧ ∃ lc, CL wc2 wx a cs j3 lc)
              case atStart => exact ⟨0, by omega, rfl, [], Keep.refl _ _, HMC.out, by simp, fun _ h => by simp at h⟩
              case round =>
                obtain ⟨j3, hj3, rfl, lc, hrow⟩ := hrel
                have HL := Lib.hid hrow
                clear hrow
                have hszb := HB.out.2.2.2.2.2.2
                have hszw : a + 1 + 1 + 1 + 1 + 1 + 1 + 1 ≤ wr.heap.size := by
                  have h1 := HR1.out.2.1.keep.size
                  have h2 := HR.out.keep.size
                  have h3 := HL.out.keep.size
                  have h4 := HL4.out.keep.size
                  omega
                by_cases hlt : j3 < cn0
                · obtain ⟨hI, k0⟩ := HA.out
                  have hfix := HF.out.keep (HL.out.keep.mono fun _ _ h => .inr (.inr (.inl h)))
                  have hle : w0.heap.size ≤ a := by have := k0.size; have := HS.out; omega
                  have kwr : Keep NoB w0 wr := ((((k0.then HB.out.1).trans HR1.out.2.1.keep (M'' := NoB) (fun _ _ h => h) (fun i hi h => by rcases h with h | h <;> omega)).trans HR.out.keep (M'' := NoB) (fun _ _ h => h) (fun i hi h => by omega)).trans HL4.out.keep (M'' := NoB) (fun _ _ h => h) (fun i hi h => by omega)).trans HL.out.keep (fun _ _ h => h) (fun i hi h => by omega)
                  have hne := HN3.out
                  rcases hI.com with rfl | ⟨b, off, hso, hc⟩
                  · simp at hne; omega
                  · obtain rfl : co = some ⟨b, off, none⟩ := hso
                    obtain ⟨⟨nj, t⟩, hl⟩ : ∃ x, cs[j3]? = some x := ⟨_, List.getElem?_eq_getElem (by omega)⟩
                    obtain ⟨k, sj, el, al, hcj, hIj⟩ := hc j3 _ _ hl
                    have hcw := hcj.keep kwr (NoB.not _)
                    have f0 := hcw 0 _ rfl
                    rw [Nat.add_zero] at f0
                    have f1 := hcw 1 _ rfl
                    have f2 := hcw 2 _ rfl
                    have f3 := hcw 3 _ rfl
                    have f4 := hcw 4 _ rfl
                    have k1 := Keep.alloc wr (.cells #[.string nj, .int .i64 k, .string sj, .slice el.1 el.2.1 el.2.2, .slice al.1 al.2.1 al.2.2] 198) NoB
                    have hb1 := (MapKept.heap_alloc wr (.cells #[.string nj, .int .i64 k, .string sj, .slice el.1 el.2.1 el.2.2, .slice al.1 al.2.1 al.2.2] 198)).1
                    have HC := Lib.hid (schemaType_c hIj _ (kwr.then k1))
                    have HP := Lib.hid (And.intro hl (And.intro k1 (And.intro hb1 (And.intro hfix (And.intro hle kwr)))))
                    clear hI k0 hfix hle kwr hne hc hl hcj hIj hcw k1 hb1
                    go_wp2_with fail
                    refine HC.out.mono ?_
                    rintro en w3 ⟨T, x, rfl, hAT, k3⟩
                    clear f0 f1 f2 f3 f4
                    obtain ⟨hl, k1, hb1, hfix, hle, kwr⟩ := HP.out
                    have k13 := k1.then k3
                    have hb3 := k3.heap hb1 (NoB.not _)
                    have hfix3 := hfix.keep (k13.mono fun _ _ h => h.elim)
                    have g0 : w3.cell? ⟨wr.heap.size, 0, none⟩ = some (.string nj) := by rw [cell_cells hb3]; rfl
                    have g6 : w3.cell? ⟨a + 1 + 1 + 1 + 1 + 1 + 1, 4, none⟩ = some (.map (some (a + 1 + 1 + 1 + 1 + 1))) := by rw [cell_cells hfix3.h6]; rfl
                    have hm4 := HL.out.map.keep k13 (NoB.not _)
                    obtain ⟨ob, hupd, hm5⟩ := hm4.update (strKey Tryz.underlying188) Tryz.underlying133 nj (.agg #[.map none, .iface T x])
                    have HQ := Lib.hid (And.intro hAT (And.intro k3 (And.intro k13 hm5)))
                    clear hl k1 hb1 hfix hle kwr hAT k3 k13 hb3 hfix3 hm4 hm5
                    go_wp2_with fail
                    go_roundg (gk - 1)
                    case measure => omega
                    case rel =>
                      obtain ⟨hl, k1, hb1, hfix, hle, kwr⟩ := HP.out
                      obtain ⟨hAT, k3, k13, hm5⟩ := HQ.out
                      obtain ⟨hI, k0⟩ := HA.out
                      have hne := HN3.out
                      have hjl : j3 < cs.length := by omega
                      have htk : cs.take (j3 + 1) = cs.take j3 ++ [(nj, t)] := by
                        rw [List.take_succ_eq_append_getElem hjl]
                        have := List.getElem?_eq_getElem hjl
                        rw [hl] at this
                        rw [← Option.some.inj this]
                      have hnt : ((cs.take (j3 + 1)).map (·.1)).Nodup := (List.Sublist.map _ (List.take_sublist _ _)).nodup hI.cnod
                      have hfresh : ∀ q ∈ lc, q.1 ≠ nj := by
                        intro q hq e
                        rw [htk, List.map_append, ← HL.out.keys] at hnt
                        exact (List.nodup_append.1 hnt).2.2 q.1 (List.mem_map.2 ⟨q, hq, rfl⟩) nj (by simp) e
                      rw [kput_fresh _ hfresh] at hm5
                      have k5 : Keep (· = a + 1 + 1 + 1 + 1 + 1) w3 (ChangeMaps.setBlock w3 (a + 1 + 1 + 1 + 1 + 1) ob) := Keep.setBlock _ _ _ (fun _ => rfl)
                      refine ⟨j3 + 1, by omega, by go_num, _, ⟨(HL.out.keep.then k13).trans k5 (fun _ _ h => h) (fun _ _ h => h), hm5, by rw [List.map_append, HL.out.keys, htk, List.map_append]; rfl, fun p hp => ?_⟩⟩
                      rcases List.mem_append.1 hp with h | h
                      · obtain ⟨e', h1, h2⟩ := HL.out.com p h
                        exact ⟨e', h1, (h2.keep (M' := fun i => i < a + 1 + 1 + 1 + 1 + 1 + 1 + 1) k13 (fun _ _ h => h.elim) (fun _ _ h => h)).keep k5 (fun i hi h => by show i < _; omega) (fun _ _ h => h)⟩
                      · simp only [List.mem_singleton] at h
                        subst h
                        exact ⟨t, List.mem_of_getElem? hl, none, _, rfl, ATyIs.keep k5 (fun i hi h => by show i < _; rw [World.size_alloc]; omega) (fun i hi (h : i < a + 1 + 1 + 1 + 1 + 1 + 1 + 1) => by show i < _; rw [World.size_alloc]; omega) hAT⟩
                · have hjn : j3 = cn0 := by omega
                  subst hjn
                  have hfixw := HF.out.keep (HL.out.keep.mono fun _ _ h => .inr (.inr (.inl h)))
                  have HFX := Lib.hid hfixw
                  have q0 : wr.cell? ⟨a + 1 + 1 + 1 + 1 + 1 + 1, 0, none⟩ = some (.map none) := by rw [cell_cells hfixw.h6]; rfl
                  have q1 : wr.cell? ⟨a + 1 + 1 + 1 + 1 + 1 + 1, 1, none⟩ = some (.map (some (a + 1 + 1))) := by rw [cell_cells hfixw.h6]; rfl
                  have q2 : wr.cell? ⟨a + 1 + 1 + 1 + 1 + 1 + 1, 2, none⟩ = some (.map (some (a + 1 + 1 + 1))) := by rw [cell_cells hfixw.h6]; rfl
                  have q3 : wr.cell? ⟨a + 1 + 1 + 1 + 1 + 1 + 1, 3, none⟩ = some (.map (some (a + 1 + 1 + 1 + 1))) := by rw [cell_cells hfixw.h6]; rfl
                  have q4 : wr.cell? ⟨a + 1 + 1 + 1 + 1 + 1 + 1, 4, none⟩ = some (.map (some (a + 1 + 1 + 1 + 1 + 1))) := by rw [cell_cells hfixw.h6]; rfl
                  have p0 : wr.cell? ⟨a + 1, 0, none⟩ = some (.map none) := by rw [cell_cells hfixw.h1]; rfl
                  have p1 : wr.cell? ⟨a + 1, 1, none⟩ = some (.map none) := by rw [cell_cells hfixw.h1]; rfl
                  have p2 : wr.cell? ⟨a + 1, 2, none⟩ = some (.map none) := by rw [cell_cells hfixw.h1]; rfl
                  have p3 : wr.cell? ⟨a + 1, 3, none⟩ = some (.map none) := by rw [cell_cells hfixw.h1]; rfl
                  have p4 : wr.cell? ⟨a + 1, 4, none⟩ = some (.map none) := by rw [cell_cells hfixw.h1]; rfl
                  have z0 := frozen_cells hfixw.h1 0
                  have z1 := frozen_cells hfixw.h1 1
                  have z2 := frozen_cells hfixw.h1 2
                  have z3 := frozen_cells hfixw.h1 3
                  have z4 := frozen_cells hfixw.h1 4
                  clear hlt hfixw
                  go_wp2_with fail
                  obtain ⟨hfix, hI⟩ : SpFix wr a nm (so, j, sc0) (no, j2, nc0) (ao, j4, ac0) (co, j3, cc0) ∧ ISpIs w0 M es ns cs ac (so, j, sc0) (no, j2, nc0) (ao, j4, ac0) (co, j3, cc0) := ⟨HFX.out, HA.out.1⟩
                  have hz := setCell_cells (setCell_cells (setCell_cells (setCell_cells (setCell_cells hfix.h1 0 (.map none)) 1 (.map (some (a + 1 + 1)))) 2 (.map (some (a + 1 + 1 + 1)))) 3 (.map (some (a + 1 + 1 + 1 + 1)))) 4 (.map (some (a + 1 + 1 + 1 + 1 + 1)))
                  have kst : ∀ (u : World) (i : Nat) (v : Value), Keep (· = a + 1) u (u.setCell ⟨a + 1, i, none⟩ v) := fun u i v => Keep.setCell _ _ _ (fun _ => rfl)
                  have kj : ∀ {u v x : World}, Keep (· = a + 1) u v → Keep (· = a + 1) v x → Keep (· = a + 1) u x := fun h1 h2 => h1.trans h2 (fun _ _ h => h) (fun _ _ h => h)
                  have ks := kj (kj (kj (kj (kst wr 0 (.map none)) (kst _ 1 (.map (some (a + 1 + 1))))) (kst _ 2 (.map (some (a + 1 + 1 + 1))))) (kst _ 3 (.map (some (a + 1 + 1 + 1 + 1))))) (kst _ 4 (.map (some (a + 1 + 1 + 1 + 1 + 1))))
                  generalize ((((((wr.setCell ⟨a + 1, 0, none⟩ (.map none)).setCell ⟨a + 1, 1, none⟩ (.map (some (a + 1 + 1)))).setCell ⟨a + 1, 2, none⟩ (.map (some (a + 1 + 1 + 1)))).setCell ⟨a + 1, 3, none⟩ (.map (some (a + 1 + 1 + 1 + 1)))).setCell ⟨a + 1, 4, none⟩ (.map (some (a + 1 + 1 + 1 + 1 + 1))))) = wz at hz ks ⊢
                  replace hz : wz.heap[a + 1]? = some (.cells #[.map none, .map (some (a + 1 + 1)), .map (some (a + 1 + 1 + 1)), .map (some (a + 1 + 1 + 1 + 1)), .map (some (a + 1 + 1 + 1 + 1 + 1))] 138 (0, 0)) := hz
                  have r0 : wz.cell? ⟨a + 1, 0, none⟩ = some (.map none) := by rw [cell_cells hz]; rfl
                  have r1 : wz.cell? ⟨a + 1, 1, none⟩ = some (.map (some (a + 1 + 1))) := by rw [cell_cells hz]; rfl
                  have r2 : wz.cell? ⟨a + 1, 2, none⟩ = some (.map (some (a + 1 + 1 + 1))) := by rw [cell_cells hz]; rfl
                  have r3 : wz.cell? ⟨a + 1, 3, none⟩ = some (.map (some (a + 1 + 1 + 1 + 1))) := by rw [cell_cells hz]; rfl
                  have r4 : wz.cell? ⟨a + 1, 4, none⟩ = some (.map (some (a + 1 + 1 + 1 + 1 + 1))) := by rw [cell_cells hz]; rfl
                  have haw := HS.out
                  have kwz : Keep NoB w wz := ((((HB.out.1.trans HR1.out.2.1.keep (M'' := NoB) (fun _ _ h => h) (fun i hi h => by rcases h with h | h <;> omega)).trans HR.out.keep (M'' := NoB) (fun _ _ h => h) (fun i hi h => by omega)).trans HL4.out.keep (M'' := NoB) (fun _ _ h => h) (fun i hi h => by omega)).trans HL.out.keep (M'' := NoB) (fun _ _ h => h) (fun i hi h => by omega)).trans ks (fun _ _ h => h) (fun i hi h => by omega)
                  have hjl3 : cs.take j3 = cs := by rw [HN3.out]; exact List.take_length
                  have hjl : es.take j = es := by rw [HN.out]; exact List.take_length
                  have hjl2 : ns.take j2 = ns := by rw [HN2.out]; exact List.take_length
                  have hjl4 : ac.take j4 = ac := by rw [HN4.out]; exact List.take_length
                  refine bodyPost_ret (v := .tuple #[.agg #[.map none, .map (some (a + 1 + 1)), .map (some (a + 1 + 1 + 1)), .map (some (a + 1 + 1 + 1 + 1)), .map (some (a + 1 + 1 + 1 + 1 + 1))], .bool true]) ?_ rfl ⟨_, _, _, _, le, ln, la, lc, rfl, ⟨?_, ?_, ?_, ?_, ?_, ?_, ?_, ?_, ?_, ?_, ?_, ?_, ?_, ?_, ?_, ?_⟩, kwz⟩
                  · simp [results, Tryz.results31, go_sem, r0, r1, r2, r3, r4, Result.andThen]
                  · exact (((HR1.out.2.1.map.keep HR.out.keep (by omega)).keep HL4.out.keep (by omega)).keep HL.out.keep (by omega)).keep ks (by omega)
                  · exact ((HR.out.map.keep HL4.out.keep (by omega)).keep HL.out.keep (by omega)).keep ks (by omega)
                  · exact (HL4.out.map.keep HL.out.keep (by omega)).keep ks (by omega)
                  · exact HL.out.map.keep ks (by omega)
                  · intro i e h; cases e; have h' : _ < w.heap.size := h; omega
                  · intro i e h; cases e; have h' : _ < w.heap.size := h; omega
                  · intro i e h; cases e; have h' : _ < w.heap.size := h; omega
                  · intro i e h; cases e; have h' : _ < w.heap.size := h; omega
                  · rw [HR1.out.2.1.keys, hjl]; rfl
                  · rw [HR.out.keys, hjl2]; rfl
                  · rw [HL4.out.keys, hjl4]; rfl
                  · rw [HL.out.keys, hjl3]; rfl
                  · intro p hp
                    obtain ⟨e, h1, h2⟩ := HR1.out.2.1.ent p hp
                    have hg := kget_mem hI.enod h1
                    have hAE : (spOf es ns cs ac).AE p.1 = e.ast := by unfold spOf; simp only [hg]; rfl
                    have hpL : e.parents.length ≤ 1000000 := by
                      obtain ⟨i, hi⟩ := List.mem_iff_getElem?.1 h1
                      rcases hI.ent with rfl | ⟨b, off, _, hc⟩
                      · simp at hi
                      · obtain ⟨ps, ats, k, sj, el, al, _, hIj⟩ := hc i _ _ hi
                        exact hIj.pL
                    rw [hAE]
                    exact ⟨hI.esz _ h1, AEntIs.keep.k ks (fun i hi h => by show i < _; omega) (fun i hi (h : i < w.heap.size) => by show i < _; omega) (AEntIs.keep.k (M' := fun i => i < a + 1 + 1 + 1 + 1 + 1 + 1 + 1) HL.out.keep (fun i hi h => by show i < _; omega) (fun _ _ h => h) (AEntIs.keep.k (M' := fun i => i < a + 1 + 1 + 1 + 1 + 1 + 1 + 1) HL4.out.keep (fun i hi h => by show i < _; omega) (fun _ _ h => h) (AEntIs.keep.k (M' := fun i => i < a + 1 + 1 + 1 + 1 + 1 + 1 + 1) HR.out.keep (fun i hi h => by show i < _; omega) (fun _ _ h => h) h2))), hpL⟩
                  · intro p hp
                    obtain ⟨e, h1, h2⟩ := HR.out.enu p hp
                    have hg := kget_mem hI.nnod h1
                    have hAE : (spOf es ns cs ac).EN p.1 = e := by unfold spOf; simp only [hg]; rfl
                    rw [hAE]
                    exact ⟨(hI.nsz _ h1).1, AEnumIs.keep.k ks (fun i hi h => by show i < _; omega) (fun i hi (h : i < w.heap.size) => by show i < _; omega) (AEnumIs.keep.k (M' := fun i => i < a + 1 + 1 + 1 + 1 + 1 + 1 + 1) HL.out.keep (fun i hi h => by show i < _; omega) (fun _ _ h => h) (AEnumIs.keep.k (M' := fun i => i < a + 1 + 1 + 1 + 1 + 1 + 1 + 1) HL4.out.keep (fun i hi h => by show i < _; omega) (fun _ _ h => h) h2)), (hI.nsz _ h1).2⟩
                  · intro p hp
                    obtain ⟨t, h1, h2⟩ := HL.out.com p hp
                    have hg := kget_mem hI.cnod h1
                    have hAE : (spOf es ns cs ac).CT p.1 = t := by unfold spOf; simp only [hg]; rfl
                    rw [hAE]
                    exact ⟨hI.csz _ h1, h2.keep ks (fun i hi h => by show i < _; omega) (fun i hi (h : i < w.heap.size) => by show i < _; omega)⟩
                  · intro p hp
                    obtain ⟨t, h1, h2⟩ := HL4.out.act p hp
                    have hg := kget_mem hI.anod h1
                    have hAE : (spOf es ns cs ac).AA p.1 = t := by unfold spOf; simp only [hg]; rfl
                    rw [hAE]
                    exact ⟨hI.asz _ h1, AActIs.keep.k ks (fun i hi h => by show i < _; omega) (fun i hi (h : i < w.heap.size) => by show i < _; omega) (AActIs.keep.k (M' := fun i => i < a + 1 + 1 + 1 + 1 + 1 + 1 + 1) HL.out.keep (fun i hi h => by show i < _; omega) (fun _ _ h => h) h2)⟩
end Go.Proofs.YtedgonoeeeiilaaGreatDoor
