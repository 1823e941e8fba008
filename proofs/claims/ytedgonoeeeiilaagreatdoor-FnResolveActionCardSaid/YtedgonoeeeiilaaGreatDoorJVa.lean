/- Va, Vb: joined. -/
import Derived.Test.YtedgonoeeeiilaaGreatDoorSqy
import Derived.Test.YtedgonoeeeiilaaGreatDoorDf
import Derived.Laws.EntriesVeiled
import Derived.BigRegion
import Derived.Test.YtedgonoeeeiilaaGreatDoorJCy
/- The walks of the functions that look for circles of groups: a search in depth. -/
namespace Go.Proofs.YtedgonoeeeiilaaGreatDoor
open Go.RowKit

/-- An action's groups. -/
def parU (RA : List (Uid × RAct)) (u : Uid) : List Uid := ((kget RA u).map (·.parents)).getD []
/-- What has been visited, in memory. -/
def VisIs (w : World) (mV : Nat) (V : Uid → Nat) : Prop := ∃ lv, KMap encU w mV lv ∧ ∀ x, kget lv x = if V x = 0 then none else some (.int .i64 (V x))
theorem VisIs.keep {w w' : World} {mV : Nat} {V : Uid → Nat} {M : Nat → Prop} (h : VisIs w mV V) (k : Keep M w w') (hM : ¬ M mV) : VisIs w' mV V := by
  obtain ⟨lv, h1, h2⟩ := h
  exact ⟨lv, h1.keep k hM, h2⟩
theorem VisIs.get {w : World} {mV : Nat} {V : Uid → Nat} (h : VisIs w mV V) (u : Uid) : (Instr.lookup 273 (.map (some mV)) (.agg #[.string u.1, .string u.2]) false).run Tryz.prog w = .ok (.int .i64 (V u)) w := by
  obtain ⟨lv, h1, h2⟩ := h
  have h3 := h1.lookup (P := Tryz.prog) kU Tryz.underlying273 (z := .int .i64 0) (by kernel_rfl) u false
  rw [h2 u] at h3
  by_cases hv : V u = 0
  · rw [if_pos hv] at h3
    rw [hv]; exact h3
  · rw [if_neg hv] at h3
    exact h3
theorem VisIs.put {w : World} {mV : Nat} {V : Uid → Nat} (h : VisIs w mV V) (u : Uid) (n : Nat) (hn : n ≠ 0) : ∃ o, (Instr.mapUpdate 273 (.map (some mV)) (.agg #[.string u.1, .string u.2]) (.int .i64 n)).run Tryz.prog w = .ok () (ChangeMaps.setBlock w mV o) ∧ VisIs (ChangeMaps.setBlock w mV o) mV (upd V u n) := by
  obtain ⟨lv, h1, h2⟩ := h
  obtain ⟨o, h3, h4⟩ := h1.update (P := Tryz.prog) kU Tryz.underlying273 u (.int .i64 n)
  refine ⟨o, h3, _, h4, fun x => ?_⟩
  rw [kget_kput]
  by_cases hx : u = x
  · subst hx
    rw [if_pos rfl, upd_same, if_neg hn]
  · rw [if_neg hx, upd_ne hx]; exact h2 x

/-- Where the search finds what it needs. -/
structure VEnv (w : World) (Bv Br Bf mV bo oA : Nat) (RA : List (Uid × RAct)) : Prop where
  cv : w.cell? ⟨Bv, 0, none⟩ = some (.map (some mV))
  cr : w.cell? ⟨Br, 0, none⟩ = some (.pointer (some ⟨bo, 0, none⟩))
  cf : w.cell? ⟨Bf, 0, none⟩ = some (.func (.func 89) #[] #[.pointer (some ⟨Bv, 0, none⟩), .pointer (some ⟨Br, 0, none⟩), .pointer (some ⟨Bf, 0, none⟩)])
  c3 : w.cell? ⟨bo, 3, none⟩ = some (.map (some oA))
  acts : ∃ lv, KMap encU w oA lv ∧ MapRel (RActIs w (· = mV)) RA lv
  nv : Bv ≠ mV
  nr : Br ≠ mV
  nf : Bf ≠ mV
  nb : bo ≠ mV
  na : oA ≠ mV
theorem VEnv.keep {w w' : World} {Bv Br Bf mV bo oA : Nat} {RA : List (Uid × RAct)} (h : VEnv w Bv Br Bf mV bo oA RA) (k : Keep (· = mV) w w') : VEnv w' Bv Br Bf mV bo oA RA := by
  obtain ⟨lv, h1, h2⟩ := h.acts
  exact ⟨k.cell h.cv h.nv, k.cell h.cr h.nr, k.cell h.cf h.nf, k.cell h.c3 h.nb, ⟨lv, h1.keep k h.na, h2.mono fun _ _ _ _ q => RActIs.keep.k k (fun _ _ h => h) (fun _ _ h => h) q⟩, h.nv, h.nr, h.nf, h.nb, h.na⟩
theorem VEnv.keep0 {w w' : World} {Bv Br Bf mV bo oA : Nat} {RA : List (Uid × RAct)} (h : VEnv w Bv Br Bf mV bo oA RA) (k : Keep NoB w w') : VEnv w' Bv Br Bf mV bo oA RA := h.keep (k.mono fun _ _ h => h.elim)

/-- What a visit answers. -/
def VisOut (RA : List (Uid × RAct)) (mV : Nat) (V : Uid → Nat) (stk : List Uid) (u : Uid) (w : World) (e : Ending) (w' : World) : Prop :=
  (((∃ a, e = .returned (.iface 296 (.pointer (some a)))) ∧ ∃ x, ¬ Acc (Up (parU RA)) x) ∨
   (e = .returned .nilIface ∧ ∃ V', DSt (parU RA) V' stk ∧ V' u = 2 ∧ (∀ x, V' x = 0 → V x = 0) ∧ (∀ x, V x = 2 → V' x = 2) ∧ VisIs w' mV V')) ∧ Keep (· = mV) w w'
theorem zeroRAct (w : World) : (zeroValue 111).run Tryz.prog w = .ok (.agg #[.string ⟨#[]⟩, .string ⟨#[]⟩, .map none, .map none, .int .u64 0, .map none, .int .u64 0, .map none, .pointer none]) w := by kernel_rfl

set_option maxRecDepth 100000 in
set_option maxHeartbeats 16000000 in
theorem visit_c (RA : List (Uid × RAct)) (N : List Uid) (hN : ∀ u ∈ N, ∃ a, kget RA u = some a ∧ True) (hC : ∀ u ∈ N, ∀ p ∈ parU RA u, p ∈ N) (Bv Br Bf mV bo oA : Nat) :
    ∀ (n : Nat) (V : Uid → Nat) (stk : List Uid) (u : Uid) (w : World), todo N V = n → DSt (parU RA) V stk → Next (parU RA) stk u → u ∈ N → VEnv w Bv Br Bf mV bo oA RA → VisIs w mV V →
    Calls Tryz.prog 89 #[.agg #[.string u.1, .string u.2], .pointer (some ⟨Bv, 0, none⟩), .pointer (some ⟨Br, 0, none⟩), .pointer (some ⟨Bf, 0, none⟩)] w (VisOut RA mV V stk u w) := by
  intro n
  induction n using Nat.strongRecOn with
  | ind n ih =>
    intro V stk u w htodo hD hNext hu hE hV
    refine (callsIn_wide (n := 8)).1 ?_
    have kA : Keep NoB w ((w.alloc (.cells #[.string u.1, .string u.2] 96)).alloc (.cells #[.nilIface] 62)) := (Keep.alloc w _ NoB).then (Keep.alloc _ _ _)
    obtain ⟨wA, hwA⟩ : ∃ wA, wA = (w.alloc (.cells #[.string u.1, .string u.2] 96)).alloc (.cells #[.nilIface] 62) := ⟨_, rfl⟩
    have hb0 : wA.heap[w.heap.size]? = some (.cells #[.string u.1, .string u.2] 96 (0, 0)) := hwA ▸ (Keep.alloc (w.alloc (.cells #[.string u.1, .string u.2] 96)) (.cells #[.nilIface] 62) NoB).heap (MapKept.heap_alloc w _).1 (NoB.not _)
    have hb1 : wA.heap[w.heap.size + 1]? = some (.cells #[.nilIface] 62 (0, 0)) := by
      have h := (MapKept.heap_alloc (w.alloc (.cells #[.string u.1, .string u.2] 96)) (.cells #[.nilIface] 62)).1
      rw [World.size_alloc] at h; rw [hwA]; exact h
    rw [← hwA] at kA
    have hsA : wA.heap.size = w.heap.size + 1 + 1 := by rw [hwA, World.size_alloc, World.size_alloc]
    have hEA := hE.keep0 kA
    have hVA := hV.keep kA (NoB.not _)
    have cv := hEA.cv
    have d0 : wA.cell? ⟨w.heap.size, 0, none⟩ = some (.string u.1) := by rw [cell_cells hb0]; rfl
    have d1 : wA.cell? ⟨w.heap.size, 1, none⟩ = some (.string u.2) := by rw [cell_cells hb0]; rfl
    have hlk := hVA.get u
    have r0 : wA.cell? ⟨w.heap.size + 1, 0, none⟩ = some .nilIface := by rw [cell_cells hb1]; rfl
    have z0 := frozen_cells hb1 0
    have HA := Lib.hid (And.intro htodo (And.intro hD (And.intro hNext (And.intro hu (And.intro hEA (And.intro hVA (And.intro kA (And.intro hb0 (And.intro hb1 hsA)))))))))
    have HI := Lib.hid ih
    have HC := Lib.hid (And.intro hN hC)
    have HW := Lib.hid hwA
    clear ih htodo hD hNext hu hE hV hEA hVA kA hb0 hb1 hN hC hsA
    refine callsIn_of_wp_marks Tryz.func89 rfl trivial ?_ rfl
    simp only [Tryz.ntmps89, List.size_toArray, List.length_cons, List.length_nil, Nat.reduceAdd, Nat.reduceSub, Array.replicate_succ, Array.replicate_zero, List.push_toArray, List.append_toArray, List.nil_append, List.cons_append]
    rcases Nat.lt_or_ge (V u) 1 with h0 | h1
    · have hv0 : V u = 0 := by omega
      obtain ⟨o1, hput0, hV1⟩ := HA.out.2.2.2.2.2.1.put u 1 (by decide)
      have hput : (Instr.mapUpdate 273 (.map (some mV)) (.agg #[.string u.1, .string u.2]) (.int .i64 1)).run Tryz.prog wA = .ok () (ChangeMaps.setBlock wA mV o1) := hput0
      clear hput0
      rw [hv0] at hlk
      rw [hwA] at cv d0 d1 hlk hput
      have H1 := Lib.hid hV1
      have HV0 := Lib.hid hv0
      clear hV1 r0 z0 hwA hv0 h0
      gi_wp2
      clear cv d0 d1 hlk hput
      rw [← HW.out]
      obtain ⟨w1, hw1⟩ : ∃ w1, w1 = ChangeMaps.setBlock wA mV o1 := ⟨_, rfl⟩
      rw [← hw1] at H1 ⊢
      obtain ⟨htodo, hD, hNext, hu, hEA, hVA, kA, hb0, hb1, hsA⟩ := HA.out
      have hmV : mV < wA.heap.size := by obtain ⟨lv, h1, _⟩ := hVA; exact h1.lt
      have hmVw : mV < w.heap.size := by
        have hne0 : w.heap.size ≠ mV := by obtain ⟨lv, h1, _⟩ := hVA; exact cell_ne_map (show wA.cell? ⟨w.heap.size, 0, none⟩ = some (.string u.1) by rw [cell_cells hb0]; rfl) h1
        have hne1 : w.heap.size + 1 ≠ mV := by obtain ⟨lv, h1, _⟩ := hVA; exact cell_ne_map (show wA.cell? ⟨w.heap.size + 1, 0, none⟩ = some .nilIface by rw [cell_cells hb1]; rfl) h1
        omega
      have k1 : Keep (· = mV) wA w1 := hw1 ▸ Keep.setBlock _ _ _ (fun _ => rfl)
      have hE1 := hEA.keep k1
      obtain ⟨ra, hra, hral⟩ := HC.out.1 u hu
      obtain ⟨lv, hlv, hmr⟩ := hE1.acts
      obtain ⟨av, hav, hai⟩ := hmr.rel u ra (kget_some hra)
      obtain ⟨an, pv, tv, rfl, ⟨bs, lp, rfl, hMb, hmb, hub⟩, htv⟩ := hai
      have hB0 := k1.heap hb0 (by omega)
      have hB1 := k1.heap hb1 (by omega)
      have hgl : kget lv u = some (.agg #[.string ra.uid.1, .string ra.uid.2, .map (some bs), .map none, .int .u64 0, .map none, .int .u64 0, .map an, tv]) := kget_mem hlv.nodup hav
      have HQ := Lib.hid (show ∀ x, Keep NoB w1 x → x.cell? ⟨Br, 0, none⟩ = some (.pointer (some ⟨bo, 0, none⟩)) ∧ x.cell? ⟨bo, 3, none⟩ = some (.map (some oA)) ∧ x.cell? ⟨w.heap.size, 0, none⟩ = some (.string u.1) ∧ x.cell? ⟨w.heap.size, 1, none⟩ = some (.string u.2) ∧
          (Instr.lookup 82 (.map (some oA)) (.agg #[.string u.1, .string u.2]) false).run Tryz.prog x = .ok (.agg #[.string ra.uid.1, .string ra.uid.2, .map (some bs), .map none, .int .u64 0, .map none, .int .u64 0, .map an, tv]) x from fun x kx => by
        have h1 := kx.heap hB0 (NoB.not _)
        have h2 := hE1.keep0 kx
        have h3 := (hlv.keep kx (NoB.not _)).lookup (P := Tryz.prog) kU Tryz.underlying82 (zeroRAct x) u false
        rw [hgl] at h3
        exact ⟨h2.cr, h2.c3, by rw [cell_cells h1]; rfl, by rw [cell_cells h1]; rfl, h3⟩)
      have htv1 : tv.oneCell' = true := by
        cases hq : ra.app with
        | none => rw [hq] at htv; obtain rfl := htv; rfl
        | some x => rw [hq] at htv; obtain ⟨_, _, _, _, rfl, _⟩ := htv; rfl
      have HB := Lib.hid (And.intro hmVw (And.intro k1 (And.intro hE1 (And.intro hra (And.intro hral (And.intro hMb (And.intro hmb (And.intro hub (And.intro hB0 hB1)))))))))
      obtain ⟨g1, g2, g3, g4, g5⟩ := HQ.out w1 (Keep.refl _ _)
      obtain ⟨q1, q2, q3, q4, q5⟩ := HQ.out w1.drew (Keep.drew _ _)
      obtain ⟨t1, t2, t3, t4, t5⟩ := HQ.out (w1.alloc (.cells #[.string ⟨#[]⟩, .string ⟨#[]⟩, .map none, .map none, .int .u64 0, .map none, .int .u64 0, .map none, .pointer none] 111)).drew ((Keep.alloc w1 _ NoB).then (Keep.drew _ _))
      have hst := fun w a m => run_store Tryz.prog w a tv m htv1
      clear hw1 htodo hD hNext hu hEA hVA kA hb0 hb1 hsA hmV hmVw k1 hE1 hra hral hlv hmr hav hMb hmb hub hB0 hB1 hgl htv htv1
      gi_region
      all_goals
        clear g1 g2 g3 g4 g5 q1 q2 q3 q4 q5 t1 t2 t3 t4 t5 hst
        obtain ⟨w2, hw2⟩ : ∃ w2, w2 = (w1.alloc (.cells #[.string ra.uid.1, .string ra.uid.2, .map (some bs), .map none, .int .u64 0, .map none, .int .u64 0, .map an, tv] 111)).drew := ⟨_, rfl⟩
        have k2 : Keep NoB w1 w2 := hw2 ▸ (Keep.alloc w1 _ NoB).then (Keep.drew _ _)
        have hb2 : w2.heap[w1.heap.size]? = some (.cells #[.string ra.uid.1, .string ra.uid.2, .map (some bs), .map none, .int .u64 0, .map none, .int .u64 0, .map an, tv] 111 (0, 0)) := by
          rw [hw2]; exact (Keep.drew _ NoB).heap (MapKept.heap_alloc w1 _).1 (NoB.not _)
        have c2 : w2.cell? ⟨w1.heap.size, 2, none⟩ = some (.map (some bs)) := by rw [cell_cells hb2]; rfl
        rw [← hw2]
        have HK2 := Lib.hid k2
        clear hw2 k2 hb2
        gi_wp2
        clear c2
        refine ⟨trivial, callsIn_wide.2 ((uidsAllI_c (some bs) w2).mono ?_)⟩
        rintro e w3 ⟨b3, rfl, hb3, hbc, k3⟩
        have HK3 := Lib.hid (And.intro hb3 (And.intro hbc k3))
        clear hb3 hbc k3
        gi_wp2
        obtain ⟨hmVw, k1, hE1, hra, hral, hMb, hmb, hub, hB0, hB1⟩ := HB.out
        obtain ⟨hb3, hbc, k3⟩ := HK3.out
        have k13 : Keep NoB w1 w3 := HK2.out.then k3
        have hw3 : w.heap.size + 2 ≤ w3.heap.size := by have h1 := k13.size; have h2 := k1.size; have h3 := HA.out.2.2.2.2.2.2.2.2.2; omega
        have hE3 := hE1.keep0 k13
        have hV3 : VisIs w3 mV (upd V u 1) := H1.out.keep k13 (NoB.not _)
        have hmb3 := hmb.keep k13 (NoB.not _)
        have hB03 := k13.heap hB0 (NoB.not _)
        have hB13 := k13.heap hB1 (NoB.not _)
        have hc3 : w3.cell? ⟨b3, 0, none⟩ = some (.map (some bs)) := by rw [cell_cells hbc]; rfl
        have hpar : parU RA u = ra.parents := by unfold parU; rw [hra]; rfl
        have hD1 : DSt (parU RA) (upd V u 1) (u :: stk) := HA.out.2.1.push HA.out.2.2.1 HV0.out
        have HL := Lib.hid (And.intro hE3 (And.intro hV3 (And.intro hmb3 (And.intro hB03 (And.intro hB13 (And.intro hpar (And.intro hD1 (And.intro hmVw (And.intro hw3 (And.intro hMb (And.intro hub (And.intro hral (show Keep (· = mV) w w3 from (HA.out.2.2.2.2.2.2.1.trans k1 (M'' := (· = mV)) (fun _ _ h => h.elim) (fun _ _ h => h)).then k13)))))))))))))
        have hseq := uidsSeqM 7 (by omega) b3 bs lp w3 hc3 hmb3
        clear hmVw k1 hE1 hra hral hMb hmb hub hB0 hB1 hb3 hbc k3 k13 hE3 hV3 hB03 hB13 hc3 hpar hD1
        refine wpIn_rangeFunc_ownH (F := Fence.wide) (n := 8) (encs := fun p : {p : Uid // p ∈ lp.map (·.1)} => #[encU p.1]) (S := fun xs => (xs.map (·.1)).Perm (lp.map (·.1))) (Sp := fun _ => True) (Kp := KpM bs) rfl (by omega) (gf := 66) (lb := #[.pointer (some ⟨b3, 0, none⟩)]) rfl trivial (enters_of Tryz.func66 (by kernel_rfl) rfl) hseq KpM.trans (KpM.record hmb3.lt) (Below.refl _ _) (fun _ => rfl)
          (fun pre W => Keep (· = mV) w3 W ∧ ∃ V2, DSt (parU RA) V2 (u :: stk) ∧ (∀ p ∈ pre, V2 p.1 = 2) ∧ (∀ x, V2 x = 0 → upd V u 1 x = 0) ∧ (∀ x, upd V u 1 x = 2 → V2 x = 2) ∧ VisIs W mV V2)
          (fun c pre W => c = .ret ∧ Keep (fun i => i = mV ∨ i = w.heap.size + 1) w3 W ∧ (∃ a, W.heap[w.heap.size + 1]? = some (.cells #[.iface 296 (.pointer (some a))] 62 (0, 0))) ∧ ∃ x, ¬ Acc (Up (parU RA)) x)
          ?_ ?_ ⟨Keep.refl _ _, upd V u 1, HL.out.2.2.2.2.2.2.1, (fun _ h => by simp at h), fun _ h => h, fun _ h => h, HL.out.2.1⟩
          (fun x a' W => ∃ blk, a' = { tmps := #[.agg #[.string u.1, .string u.2], .pointer (some ⟨Bv, 0, none⟩), .pointer (some ⟨Br, 0, none⟩), .pointer (some ⟨Bf, 0, none⟩), .pointer (some ⟨w.heap.size, 0, none⟩), .pointer (some ⟨w.heap.size + 1, 0, none⟩), .pointer (some ⟨w1.heap.size, 0, none⟩), (.pointer (some ⟨blk, 0, none⟩)), undef, .map (some mV), .agg #[.string u.1, .string u.2], .int .i64 0, .bool false, .bool false, undef, .bool false, .bool false, .map (some mV), .agg #[.string u.1, .string u.2], .pointer (some ⟨bo, 0, none⟩), .pointer (some ⟨bo, 0, none⟩), .pointer (some ⟨bo, 3, none⟩), .map (some oA), .agg #[.string u.1, .string u.2], .agg #[.string ra.uid.1, .string ra.uid.2, .map (some bs), .map none, .int .u64 0, .map none, .int .u64 0, .map an, tv], .pointer (some ⟨w1.heap.size, 0, none⟩), .pointer (some ⟨w1.heap.size, 2, none⟩), .agg #[.map (some bs)], .func (.func 66) #[] #[.pointer (some ⟨b3, 0, none⟩)], (.agg #[.string x.1.1, .string x.1.2]), undef, undef, undef, undef, undef, undef, undef, undef], defers := [] } ∧ w3.heap.size ≤ blk ∧ W.heap[blk]? = some (.cells #[.string x.1.1, .string x.1.2] 96 (0, 0)))
          ?_ ?_ ?_ ?_ ?_
        · rintro s A B row ⟨h1, V2, h2, h3, h4, h5, h6⟩ hg hr
          have kg : Keep (fun i => w3.heap.size ≤ i) A B := Keep.grown hg fun i e _ => (hr i e).1
          have hlt : mV < w3.heap.size := by have := HL.out.2.2.2.2.2.2.2.1; have := HL.out.2.2.2.2.2.2.2.2.1; omega
          exact ⟨h1.trans kg (fun _ _ h => h) (fun i hi h => by omega), V2, h2, h3, h4, h5, h6.keep kg (by omega)⟩
        · rintro c s A B row ⟨h1, h2, ⟨a, h3⟩, h4⟩ hg hr
          have kg : Keep (fun i => w3.heap.size ≤ i) A B := Keep.grown hg fun i e _ => (hr i e).1
          have hlt := HL.out.2.2.2.2.2.2.2.2.1
          exact ⟨h1, h2.trans kg (fun _ _ h => h) (fun i hi h => by omega), ⟨a, kg.heap h3 (by omega)⟩, h4⟩
        · rintro x a' s A B row ⟨blk, e, h1, h2⟩ hg hr
          refine ⟨blk, e, h1, (hg.block _ (Array.getElem?_eq_some_iff.1 h2).1 (fun e => ?_)).trans h2⟩
          obtain ⟨_, o, ho, hc⟩ := hr blk e.symm
          rw [h2] at ho; cases ho; cases hc
        · rintro l pre ⟨x, hx⟩ W K hI hK
          have HK := Lib.hid (And.intro hI hK)
          clear hI hK
          rw [show ((#[29] : Array Tmp).zip #[encU x]).foldl (fun t (q : Tmp × Value) => t.setIfInBounds q.1 q.2) #[.agg #[.string u.1, .string u.2], .pointer (some ⟨Bv, 0, none⟩), .pointer (some ⟨Br, 0, none⟩), .pointer (some ⟨Bf, 0, none⟩), .pointer (some ⟨w.heap.size, 0, none⟩), .pointer (some ⟨w.heap.size + 1, 0, none⟩), .pointer (some ⟨w1.heap.size, 0, none⟩), undef, undef, .map (some mV), .agg #[.string u.1, .string u.2], .int .i64 0, .bool false, .bool false, undef, .bool false, .bool false, .map (some mV), .agg #[.string u.1, .string u.2], .pointer (some ⟨bo, 0, none⟩), .pointer (some ⟨bo, 0, none⟩), .pointer (some ⟨bo, 3, none⟩), .map (some oA), .agg #[.string u.1, .string u.2], .agg #[.string ra.uid.1, .string ra.uid.2, .map (some bs), .map none, .int .u64 0, .map none, .int .u64 0, .map an, tv], .pointer (some ⟨w1.heap.size, 0, none⟩), .pointer (some ⟨w1.heap.size, 2, none⟩), .agg #[.map (some bs)], .func (.func 66) #[] #[.pointer (some ⟨b3, 0, none⟩)], undef, undef, undef, undef, undef, undef, undef, undef, undef] = #[.agg #[.string u.1, .string u.2], .pointer (some ⟨Bv, 0, none⟩), .pointer (some ⟨Br, 0, none⟩), .pointer (some ⟨Bf, 0, none⟩), .pointer (some ⟨w.heap.size, 0, none⟩), .pointer (some ⟨w.heap.size + 1, 0, none⟩), .pointer (some ⟨w1.heap.size, 0, none⟩), undef, undef, .map (some mV), .agg #[.string u.1, .string u.2], .int .i64 0, .bool false, .bool false, undef, .bool false, .bool false, .map (some mV), .agg #[.string u.1, .string u.2], .pointer (some ⟨bo, 0, none⟩), .pointer (some ⟨bo, 0, none⟩), .pointer (some ⟨bo, 3, none⟩), .map (some oA), .agg #[.string u.1, .string u.2], .agg #[.string ra.uid.1, .string ra.uid.2, .map (some bs), .map none, .int .u64 0, .map none, .int .u64 0, .map an, tv], .pointer (some ⟨w1.heap.size, 0, none⟩), .pointer (some ⟨w1.heap.size, 2, none⟩), .agg #[.map (some bs)], .func (.func 66) #[] #[.pointer (some ⟨b3, 0, none⟩)], (.agg #[.string x.1, .string x.2]), undef, undef, undef, undef, undef, undef, undef, undef] by simp [encU]]
          gi_wp2_with (rw [Oper.semAt_eq _ _ _ (fun c h => by cases h)]; go_simp; try go_bits)
          obtain ⟨⟨h1, V2, h2, h3, h4, h5, h6⟩, hK⟩ := HK.out
          have ka : Keep NoB W (W.alloc (.cells #[.string x.1, .string x.2] 96)) := Keep.alloc _ _ _
          refine hK _ _ ((KeepsOthers.alloc W _).from _) (KpM.keep ka (NoB.not _) (fun _ _ h _ => h.elim)) ⟨h1.then ka, V2, h2, h3, h4, h5, h6.keep ka (NoB.not _)⟩ ⟨W.heap.size, rfl, h1.size, (MapKept.heap_alloc W _).1⟩
        · rintro l pre ⟨x, hx⟩ a' W hl hL ⟨h1, V2, h2, h3, h4, h5, h6⟩ ⟨blk, rfl, hblk, hbc⟩ hlen
          dsimp only at hbc
          have hEW := HL.out.1.keep h1
          have cf := hEW.cf
          have d0 : W.cell? ⟨blk, 0, none⟩ = some (.string x.1) := by rw [cell_cells hbc]; rfl
          have d1 : W.cell? ⟨blk, 1, none⟩ = some (.string x.2) := by rw [cell_cells hbc]; rfl
          have hxp : x ∈ parU RA u := by rw [HL.out.2.2.2.2.2.1]; exact (HL.out.2.2.2.2.2.2.2.2.2.2.1 x).1 hx
          have hxN : x ∈ N := HC.out.2 u HA.out.2.2.2.1 x hxp
          have htd : todo N V2 < n := by
            have e1 := HA.out.1
            have e2 := todo_le (N := N) h4
            have e3 := todo_lt (N := N) HA.out.2.2.2.1 HV0.out
            omega
          have HR := Lib.hid (HI.out _ htd V2 (u :: stk) x W rfl h2 (h2.next hxp) hxN hEW h6)
          have HS := Lib.hid (And.intro h1 (And.intro h2 (And.intro h3 (And.intro h4 (And.intro h5 (And.intro h6 hl))))))
          clear h1 h2 h3 h4 h5 h6 hl hL hEW hxp hxN htd hbc hlen
          gi_wp2_with (rw [Oper.semAt_eq _ _ _ (fun c h => by cases h)]; go_simp; try go_bits)
          refine ⟨trivial, CallsIn.inRound l (callsIn_wide.2 (HR.out.mono ?_))⟩
          rintro e w4 ⟨hout, k4⟩
          have hlt : mV < w3.heap.size := by have := HL.out.2.2.2.2.2.2.2.1; have := HL.out.2.2.2.2.2.2.2.2.1; omega
          have kF : KeepsFrom w3.heap.size W w4 := ⟨k4.size, fun i o hi ho _ => k4.heap ho (by omega)⟩
          have HT := Lib.hid (And.intro k4 (And.intro hlt kF))
          rcases hout with ⟨⟨a, rfl⟩, hbad⟩ | ⟨rfl, V3, e1, e2, e3, e4, e5⟩
          · have hB4 := k4.heap (HS.out.1.heap HL.out.2.2.2.2.1 (by have := HL.out.2.2.2.2.2.2.2.1; omega)) (by have := HL.out.2.2.2.2.2.2.2.1; omega)
            have r0 : w4.cell? ⟨w.heap.size + 1, 0, none⟩ = some .nilIface := by rw [cell_cells hB4]; rfl
            have z0 := frozen_cells hB4 0
            have HX := Lib.hid (And.intro hbad hB4)
            clear k4 hlt kF hbad hB4 cf d0 d1
            gi_wp2_with (rw [Oper.semAt_eq _ _ _ (fun c h => by cases h)]; go_simp; try go_bits)
            obtain ⟨k4, hlt, kF⟩ := HT.out
            obtain ⟨hbad, hB4⟩ := HX.out
            have kz := Keep.setCell (M := (· = w.heap.size + 1)) w4 ⟨w.heap.size + 1, 0, none⟩ (.iface 296 (.pointer (some a))) (fun _ => rfl)
            exact ⟨kF.trans ((KeepsOthers.setCell _ _ _).from _), rfl, ((HS.out.1.trans k4 (M'' := fun i => i = mV ∨ i = w.heap.size + 1) (fun _ _ h => .inl h) (fun _ _ h => .inl h)).trans kz (fun _ _ h => h) (fun _ _ h => .inr h)), ⟨a, setCell_cells hB4 0 _⟩, hbad⟩
          · have HX := Lib.hid (And.intro e1 (And.intro e2 (And.intro e3 (And.intro e4 e5))))
            clear k4 hlt kF cf d0 d1 e1 e2 e3 e4 e5
            gi_wp2_with (rw [Oper.semAt_eq _ _ _ (fun c h => by cases h)]; go_simp; try go_bits)
            obtain ⟨k4, hlt, kF⟩ := HT.out
            obtain ⟨e1, e2, e3, e4, e5⟩ := HX.out
            obtain ⟨h1, h2, h3, h4, h5, h6, hl⟩ := HS.out
            refine ⟨kF, KpM.keep k4 HL.out.2.2.2.2.2.2.2.2.2.1 (fun i o hi ho => ?_), h1.trans k4 (fun _ _ h => h) (fun _ _ h => h), V3, e1, fun p hp => ?_, fun y hy => h4 y (e3 y hy), fun y hy => e4 y (h5 y hy), e5⟩
            · obtain ⟨lw, ⟨es, cl, hb, _⟩, _⟩ := h6
              subst hi
              rw [hb] at ho; cases ho; rfl
            · rcases List.mem_append.1 hp with hp | hp
              · exact e4 _ (h3 p hp)
              · rw [List.mem_singleton.1 hp]; exact e2
        · rintro D xs W hD hS ⟨h1, V2, h2, h3, h4, h5, h6⟩ hDef
          obtain ⟨o2, hput0, hV2⟩ := h6.put u 2 (by decide)
          have hput : (Instr.mapUpdate 273 (.map (some mV)) (.agg #[.string u.1, .string u.2]) (.int .i64 2)).run Tryz.prog W = .ok () (ChangeMaps.setBlock W mV o2) := hput0
          have hlt : mV < w.heap.size := HL.out.2.2.2.2.2.2.2.1
          have hw3 := HL.out.2.2.2.2.2.2.2.2.1
          have hB0 := h1.heap HL.out.2.2.2.1 (by omega)
          have hB1 := h1.heap HL.out.2.2.2.2.1 (by omega)
          have d0 : W.cell? ⟨w.heap.size, 0, none⟩ = some (.string u.1) := by rw [cell_cells hB0]; rfl
          have d1 : W.cell? ⟨w.heap.size, 1, none⟩ = some (.string u.2) := by rw [cell_cells hB0]; rfl
          have cv := (HL.out.1.keep h1).cv
          have kp : Keep (· = mV) W (ChangeMaps.setBlock W mV o2) := Keep.setBlock _ _ _ (fun _ => rfl)
          have hB1p := kp.heap hB1 (by omega)
          have hDp := kp.heap hDef (by omega)
          have hall : ∀ p ∈ parU RA u, V2 p = 2 := fun p hp => by
            rw [HL.out.2.2.2.2.2.1] at hp
            have hp2 : p ∈ xs.map (·.1) := hS.mem_iff.2 ((HL.out.2.2.2.2.2.2.2.2.2.2.1 p).2 hp)
            obtain ⟨q, hq, rfl⟩ := List.mem_map.1 hp2
            exact h3 q hq
          have hVu : V u = 0 := HV0.out
          have hfin : DSt (parU RA) (upd V2 u 2) stk ∧ upd V2 u 2 u = 2 ∧ (∀ x, upd V2 u 2 x = 0 → V x = 0) ∧ (∀ x, V x = 2 → upd V2 u 2 x = 2) := by
            refine ⟨h2.pop hall, upd_same _ _ _, fun x hx => upd_zero (by decide) (h4 x (upd_zero (by decide) hx)), fun x hx => ?_⟩
            have hne : u ≠ x := fun e => by subst e; omega
            rw [upd_ne hne]
            exact h5 x (by rw [upd_ne hne]; exact hx)
          have r0 : (ChangeMaps.setBlock W mV o2).cell? ⟨w.heap.size + 1, 0, none⟩ = some .nilIface := by rw [cell_cells hB1p]; rfl
          have z0 := frozen_cells hB1p 0
          have HX := Lib.hid (And.intro hfin (And.intro hV2 (And.intro hDp (And.intro hB1p (And.intro (HL.out.2.2.2.2.2.2.2.2.2.2.2.2.trans (h1.trans kp (M'' := (· = mV)) (fun _ _ h => h) (fun _ _ h => h)) (M'' := (· = mV)) (fun _ _ h => h) (fun _ _ h => h)) (And.intro hlt (And.intro hw3 hD)))))))
          clear h1 h2 h3 h4 h5 h6 hput0 hV2 hlt hB0 hB1 kp hB1p hDp hall hfin hS hDef hVu hw3 hD
          gi_wp2
          obtain ⟨hfin, hV2, hDp, hB1p, kw, hlt, hw3, hD⟩ := HX.out
          obtain ⟨wp, hwp⟩ : ∃ wp, wp = (ChangeMaps.setBlock W mV o2).setCell ⟨w.heap.size + 1, 0, none⟩ .nilIface := ⟨_, rfl⟩
          have ks : Keep (· = w.heap.size + 1) (ChangeMaps.setBlock W mV o2) wp := hwp ▸ Keep.setCell _ _ _ (fun _ => rfl)
          have hDs := ks.heap hDp (by omega)
          have hBs : wp.heap[w.heap.size + 1]? = some (.cells #[.nilIface] 62 (0, 0)) := hwp ▸ setCell_cells hB1p 0 .nilIface
          rw [← hwp]
          have kD : Keep (· = D) wp (wp.putObj D (.deferred none)) := Keep.grown (grownBy_putObj' _ _ _) (fun i hi _ => by cases hi; rfl)
          have hB1d := kD.heap hBs (by omega)
          have e0 : (wp.putObj D (.deferred none)).cell? ⟨w.heap.size + 1, 0, none⟩ = some .nilIface := by rw [cell_cells hB1d]; rfl
          refine ⟨by simp, .inl ⟨_, _, rfl, run_takeDeferred hDs, ?_⟩⟩
          refine ⟨.nilIface, ?_, .inr ⟨rfl, _, hfin.1, hfin.2.1, hfin.2.2.1, hfin.2.2.2, (hV2.keep ks (by omega)).keep kD (by omega)⟩, (kw.trans ks (M'' := (· = mV)) (fun _ _ h => h) (fun i hi h => by omega)).trans kD (fun _ _ h => h) (fun i hi h => by omega)⟩
          simp [results, Tryz.results89, go_sem, e0, Result.andThen]
        · rintro D c pre W hD _ ⟨rfl, h2, ⟨a, h3⟩, hbad⟩ hDef
          have hw3 := HL.out.2.2.2.2.2.2.2.2.1
          have HX := Lib.hid (And.intro h2 (And.intro h3 (And.intro hbad hDef)))
          clear h2 h3 hbad hDef
          gi_wp2
          obtain ⟨h2, h3, hbad, hDef⟩ := HX.out
          have kD : Keep (· = D) W (W.putObj D (.deferred none)) := Keep.grown (grownBy_putObj' _ _ _) (fun i hi _ => by cases hi; rfl)
          have hB1d := kD.heap h3 (by omega)
          have e0 : (W.putObj D (.deferred none)).cell? ⟨w.heap.size + 1, 0, none⟩ = some (.iface 296 (.pointer (some a))) := by rw [cell_cells hB1d]; rfl
          refine ⟨by simp, .inl ⟨_, _, rfl, run_takeDeferred hDef, ?_⟩⟩
          refine ⟨.iface 296 (.pointer (some a)), ?_, .inl ⟨⟨a, rfl⟩, hbad⟩, (HL.out.2.2.2.2.2.2.2.2.2.2.2.2.trans h2 (M'' := (· = mV)) (fun _ _ h => h) (fun i hi h => by omega)).trans kD (fun _ _ h => h) (fun i hi h => by omega)⟩
          simp [results, Tryz.results89, go_sem, e0, Result.andThen]
    · rcases Nat.lt_or_ge (V u) 2 with h2 | h2
      · have hv1 : V u = 1 := by omega
        have hcy := HA.out.2.1.hit HA.out.2.2.1 hv1
        rw [hv1] at hlk
        rw [hwA] at cv d0 d1 hlk
        have HCY := Lib.hid hcy
        clear hcy hv1 h1 h2 r0 z0 hwA
        gi_wp2
        rw [← HW.out]
        refine ⟨trivial, callsIn_wide.2 ((errorsNew_c _ wA).mono ?_)⟩
        rintro e w2 ⟨a, rfl, k2⟩
        obtain ⟨htodo, hD, hNext, hu, hEA, hVA, kA, hb0, hb1, hsA⟩ := HA.out
        have hb2 := k2.heap hb1 (NoB.not _)
        have r0 : w2.cell? ⟨w.heap.size + 1, 0, none⟩ = some .nilIface := by rw [cell_cells hb2]; rfl
        have z0 := frozen_cells hb2 0
        have HK := Lib.hid (And.intro k2 hb2)
        clear htodo hD hNext hu hEA hVA kA hb0 hb1 hsA cv d0 d1 hlk k2 hb2
        gi_wp2
        obtain ⟨k2, hb2⟩ := HK.out
        have hz := setCell_cells hb2 0 (.iface 296 (.pointer (some a)))
        have e0 : (w2.setCell ⟨w.heap.size + 1, 0, none⟩ (.iface 296 (.pointer (some a)))).cell? ⟨w.heap.size + 1, 0, none⟩ = some (.iface 296 (.pointer (some a))) := by rw [cell_cells hz]; rfl
        have kz := Keep.setCell (M := (· = w.heap.size + 1)) w2 ⟨w.heap.size + 1, 0, none⟩ (.iface 296 (.pointer (some a))) (fun _ => rfl)
        refine ⟨.iface 296 (.pointer (some a)), ?_, .inl ⟨⟨a, rfl⟩, u, HCY.out⟩, ((HA.out.2.2.2.2.2.2.1.then k2).trans kz (M'' := (· = mV)) (fun _ _ h => h.elim) (fun i hi h => by omega))⟩
        simp [results, Tryz.results89, go_sem, e0, Result.andThen]
      · have hv2 : V u = 2 := by have := HA.out.2.1.le u; omega
        rw [hv2] at hlk
        rw [hwA] at cv d0 d1 hlk r0 z0
        have HV2 := Lib.hid hv2
        clear hv2 h1 h2 hwA
        gi_wp2
        rw [← HW.out] at r0 ⊢
        obtain ⟨htodo, hD, hNext, hu, hEA, hVA, kA, hb0, hb1, hsA⟩ := HA.out
        refine ⟨.nilIface, ?_, .inr ⟨rfl, V, hD, HV2.out, fun _ h => h, fun _ h => h, hVA⟩, kA.mono fun _ _ h => h.elim⟩
        simp [results, Tryz.results89, go_sem, r0, Result.andThen]
end Go.Proofs.YtedgonoeeeiilaaGreatDoor
/- The walk of the function that checks the groups of actions. -/
namespace Go.Proofs.YtedgonoeeeiilaaGreatDoor
open Go.RowKit

/-- A mark among the deferred calls of a function that holds a range over a function. -/
abbrev mkD (D : Nat) : Deferred := { target := .collected D, args := #[] }
theorem leaves_marks {F : Fence} {n : Nat} {P : Program} {fn : Func} {tmps : Array Value} {R : Ending → World → Prop} {u : FrameMode} (hu : u ≠ .run) : ∀ (ds : List Nat) (w : World), ds.Nodup → (∀ D ∈ ds, w.heap[D]? = some (.deferred (some []))) →
    (∀ w', Keep (· ∈ ds) w w' → LeavesInM F n P fn tmps R [] u w') → LeavesInM F n P fn tmps R (ds.map mkD) u w
  | [], w, _, _, h => h w (Keep.refl _ _)
  | D :: ds, w, hn, hD, h => by
    obtain ⟨h1, h2⟩ := List.nodup_cons.1 hn
    have kD : Keep (· = D) w (w.putObj D (.deferred none)) := Keep.grown (grownBy_putObj' _ _ _) (fun i hi _ => by cases hi; rfl)
    refine ⟨hu, .inl ⟨D, _, rfl, run_takeDeferred (hD D (.head _)), leaves_marks hu ds _ h2 (fun E hE => kD.heap (hD E (.tail _ hE)) (fun e => h1 (e ▸ hE))) fun w' k => h w' (kD.trans k (fun i _ e => e ▸ .head _) (fun i _ e => .tail _ e))⟩⟩

def UndefPar (RA : List (Uid × RAct)) : Prop := ∃ u a, kget RA u = some a ∧ ∃ p ∈ a.parents, kget RA p = none
/-- What the check answers. -/
def ValOut (RA : List (Uid × RAct)) (w : World) (e : Ending) (w' : World) : Prop :=
  (((∃ a, e = .returned (.iface 296 (.pointer (some a)))) ∧ (UndefPar RA ∨ ∃ x, ¬ Acc (Up (parU RA)) x)) ∨
   (e = .returned .nilIface ∧ ¬ UndefPar RA ∧ ∀ x, Acc (Up (parU RA)) x)) ∧ Keep NoB w w'

set_option maxRecDepth 100000 in
set_option maxHeartbeats 16000000 in
theorem validate_c (w : World) (v0 : Value) (bo oA : Nat) (RA : List (Uid × RAct)) (lv : List (Uid × Value)) (c3 : w.cell? ⟨bo, 3, none⟩ = some (.map (some oA))) (hlv : KMap encU w oA lv) (hmr : MapRel (RActIs w NoB) RA lv) :
    Calls Tryz.prog 57 #[v0, .pointer (some ⟨bo, 0, none⟩)] w (ValOut RA w) := by
  refine (callsIn_wide (n := 8)).1 ?_
  have hmm := @run_makeMap Tryz.prog
  obtain ⟨wB, hwB⟩ : ∃ wB, wB = (((w.alloc (.cells #[.pointer (some ⟨bo, 0, none⟩)] 60)).alloc (.cells #[.nilIface] 62)).alloc (.map #[] 0)).alloc (.cells #[.map (some (w.heap.size + 1 + 1))] 272) := ⟨_, rfl⟩
  have hB : Keep NoB w wB ∧ wB.heap.size = w.heap.size + 1 + 1 + 1 + 1 ∧ wB.heap[w.heap.size]? = some (.cells #[.pointer (some ⟨bo, 0, none⟩)] 60 (0, 0)) ∧ wB.heap[w.heap.size + 1]? = some (.cells #[.nilIface] 62 (0, 0)) ∧ KMap encU wB (w.heap.size + 1 + 1) [] ∧ wB.heap[w.heap.size + 1 + 1 + 1]? = some (.cells #[.map (some (w.heap.size + 1 + 1))] 272 (0, 0)) := by
    obtain ⟨x1, e1⟩ : ∃ x1, x1 = w.alloc (.cells #[.pointer (some ⟨bo, 0, none⟩)] 60) := ⟨_, rfl⟩
    obtain ⟨x2, e2⟩ : ∃ x2, x2 = x1.alloc (.cells #[.nilIface] 62) := ⟨_, rfl⟩
    obtain ⟨x3, e3⟩ : ∃ x3, x3 = x2.alloc (.map #[] 0) := ⟨_, rfl⟩
    rw [← e1, ← e2, ← e3] at hwB
    have s1 : x1.heap.size = w.heap.size + 1 := by rw [e1, World.size_alloc]
    have s2 : x2.heap.size = w.heap.size + 1 + 1 := by rw [e2, World.size_alloc, s1]
    have s3 : x3.heap.size = w.heap.size + 1 + 1 + 1 := by rw [e3, World.size_alloc, s2]
    have k4 : Keep NoB x3 wB := hwB ▸ Keep.alloc _ _ _
    have k3 : Keep NoB x2 x3 := e3 ▸ Keep.alloc _ _ _
    have k2 : Keep NoB x1 x2 := e2 ▸ Keep.alloc _ _ _
    have k1 : Keep NoB w x1 := e1 ▸ Keep.alloc _ _ _
    have b1 : x2.heap[w.heap.size + 1]? = some (.cells #[.nilIface] 62 (0, 0)) := by rw [← s1, e2]; exact (MapKept.heap_alloc x1 _).1
    have m2 : KMap encU x3 (w.heap.size + 1 + 1) [] := by rw [← s2, e3]; exact KMap.made x2
    have b3 : wB.heap[w.heap.size + 1 + 1 + 1]? = some (.cells #[.map (some (w.heap.size + 1 + 1))] 272 (0, 0)) := by rw [← s3, hwB]; exact (MapKept.heap_alloc x3 _).1
    exact ⟨((k1.then k2).then k3).then k4, by rw [hwB, World.size_alloc, s3], ((k2.then k3).then k4).heap (e1 ▸ (MapKept.heap_alloc w _).1) (NoB.not _), (k3.then k4).heap b1 (NoB.not _), m2.keep k4 (NoB.not _), b3⟩
  obtain ⟨hk, hsB, h0, h1, h2, h3⟩ := hB
  have f0 : wB.cell? ⟨w.heap.size, 0, none⟩ = some (.pointer (some ⟨bo, 0, none⟩)) := by rw [cell_cells h0]; rfl
  have f3 : wB.cell? ⟨bo, 3, none⟩ = some (.map (some oA)) := hk.cell c3 (NoB.not _)
  have hlB := hlv.keep hk (NoB.not _)
  obtain ⟨o1, hr1, hi1⟩ := KMapO.range (P := Tryz.prog) (m := some oA) hlB Tryz.underlying82
  have HB := Lib.hid (And.intro hk (And.intro hsB (And.intro h0 (And.intro h1 (And.intro h2 (And.intro h3 hlB))))))
  have HI1 := Lib.hid hi1
  have HR := Lib.hid (And.intro hmr (And.intro c3 hlv))
  have HW := Lib.hid hwB
  clear hk hsB h0 h1 h2 h3 hlB hi1 hmr c3 hlv
  refine callsIn_of_wp_marks Tryz.func57 rfl trivial ?_ rfl
  simp only [Tryz.ntmps57, List.size_toArray, List.length_cons, List.length_nil, Nat.reduceAdd, Nat.reduceSub, Array.replicate_succ, Array.replicate_zero, List.push_toArray, List.append_toArray, List.nil_append, List.cons_append]
  rw [hwB] at f0 f3 hr1
  have hszB : ((((w.alloc (.cells #[.pointer (some ⟨bo, 0, none⟩)] 60)).alloc (.cells #[.nilIface] 62)).alloc (.map #[] 0)).alloc (.cells #[.map (some (w.heap.size + 1 + 1))] 272)).heap.size = w.heap.size + 1 + 1 + 1 + 1 := by simp
  rw [hszB] at hr1
  clear hwB hszB
  gi_wp2
  clear hr1 f0 f3 hmm
  rw [← HW.out]
  obtain ⟨r1, hr1⟩ : ∃ r1, r1 = w.heap.size + 1 + 1 + 1 + 1 := ⟨_, rfl⟩
  obtain ⟨m2, hm2⟩ : ∃ m2, m2 = w.heap.size + 1 + 1 := ⟨_, rfl⟩
  obtain ⟨b3, hb3⟩ : ∃ b3, b3 = w.heap.size + 1 + 1 + 1 := ⟨_, rfl⟩
  rw [HB.out.2.1, ← hr1] at HI1
  rw [← hr1, ← hb3, ← hm2]
  have HN := Lib.hid (And.intro hr1 (And.intro hm2 hb3))
  rw [← hr1, ← hb3, ← hm2] at HB
  clear hr1 hm2 hb3
  obtain ⟨wL, hwL⟩ : ∃ wL, wL = wB.alloc o1 := ⟨_, rfl⟩
  rw [← hwL] at HI1 ⊢
  have kL : Keep NoB wB wL := hwL ▸ Keep.alloc _ _ _
  have hsL : wL.heap.size = r1 + 1 := by rw [hwL, World.size_alloc]; have := HB.out.2.1; omega
  have HKL := Lib.hid (And.intro kL hsL)
  clear hwL kL hsL
  gi_loopw [6] (fun _ wr => ∃ left : List (Uid × Value), KIter encU wr (some oA) r1 lv left ∧ Keep (fun i => i = m2 ∨ i = r1) wL wr ∧ ∃ lb, KMap encU wr m2 lb ∧ (∀ p ∈ lb, p.2 = .bool true) ∧ ∀ x, x ∈ lb.map (·.1) ↔ x ∈ lv.map (·.1) ∧ x ∉ left.map (·.1))
    (fun _ wr => wr.rangeLeft oA r1)
  case atStart => exact ⟨lv, HI1.out, Keep.refl _ _, [], HB.out.2.2.2.2.1.keep HKL.out.1 (NoB.not _), by simp, fun x => by simp⟩
  case round =>
    obtain ⟨left, hit, kwr, lb, hmb, hbv, hbk⟩ := hrel
    have HF := Lib.hid (And.intro hit (And.intro kwr (And.intro hmb (And.intro hbv hbk))))
    clear hit kwr hmb hbv hbk
    rcases HF.out.1.next (P := Tryz.prog) kU.inj 0 with ⟨hl0, hnext⟩ | ⟨p, lf, w', hp, hnext, hentry, hit', hk', hsz'⟩
    · obtain ⟨hit, kwr, hmb, hbv, hbk⟩ := HF.out
      have hn := HN.out
      have kBr : Keep (fun i => i = m2 ∨ i = r1) wB wr := HKL.out.1.first kwr
      have kw : Keep NoB w wr := HB.out.1.trans kBr (fun _ _ h => h) (fun i hi h => by rcases h with h | h <;> omega)
      have hb0 := kBr.heap HB.out.2.2.1 (fun h => by rcases h with h | h <;> omega)
      have hb1 := kBr.heap HB.out.2.2.2.1 (fun h => by rcases h with h | h <;> omega)
      have hb3 := kBr.heap HB.out.2.2.2.2.2.1 (fun h => by rcases h with h | h <;> omega)
      have f0 : wr.cell? ⟨w.heap.size, 0, none⟩ = some (.pointer (some ⟨bo, 0, none⟩)) := by rw [cell_cells hb0]; rfl
      have f3 : wr.cell? ⟨bo, 3, none⟩ = some (.map (some oA)) := kw.cell HR.out.2.1 (NoB.not _)
      have hlr := HR.out.2.2.keep kw (NoB.not _)
      obtain ⟨o2, hr2, hi2⟩ := KMapO.range (P := Tryz.prog) (m := some oA) hlr Tryz.underlying82
      have hbk2 : ∀ x, x ∈ lb.map (·.1) ↔ x ∈ lv.map (·.1) := fun x => by rw [hbk x, hl0]; simp
      have H2 := Lib.hid (And.intro kw (And.intro hb0 (And.intro hb1 (And.intro hb3 (And.intro hlr (And.intro hi2 (And.intro hmb (And.intro hbv (And.intro hbk2 (show r1 + 1 ≤ wr.heap.size by have := kwr.size; have := HKL.out.2; omega))))))))))
      clear hit kwr hmb hbv hbk hn kBr kw hb0 hb1 hb3 hlr hi2 hbk2 HF HI1
      gi_wp2
      clear hr2 f0 f3 hnext
      obtain ⟨wp, hwp⟩ : ∃ wp : World, wp = wr := ⟨_, rfl⟩
      rw [← hwp] at H2 ⊢
      clear hwp
      obtain ⟨r2, hr2⟩ : ∃ r2, r2 = wp.heap.size := ⟨_, rfl⟩
      rw [← hr2] at H2 ⊢
      obtain ⟨wM, hwM⟩ : ∃ wM, wM = wp.alloc o2 := ⟨_, rfl⟩
      rw [← hwM] at H2 ⊢
      have HM := Lib.hid (And.intro (show Keep NoB wp wM from hwM ▸ Keep.alloc _ _ _) (And.intro (show wM.heap.size = r2 + 1 by rw [hwM, World.size_alloc, hr2]) hr2))
      clear hr2 hwM
      refine wpIn_loop (fun a' wr => ∃ (x8 x31 x32 x33 x34 x35 x36 x37 x38 : Value) (ds : List Nat) (left : List (Uid × Value)), (KIter encU wr (some oA) r2 lv left ∧ Keep (· = r2) wM wr ∧ ds.Nodup ∧ (∀ D ∈ ds, r2 < D ∧ wr.heap[D]? = some (.deferred (some []))) ∧ ∀ p ∈ lv, p.1 ∉ left.map (·.1) → ∃ a, kget RA p.1 = some a ∧ ∀ q ∈ a.parents, q ∈ lb.map (·.1)) ∧
          a' = { tmps := #[v0, .pointer (some ⟨bo, 0, none⟩), undef, .pointer (some ⟨w.heap.size, 0, none⟩), .pointer (some ⟨w.heap.size + 1, 0, none⟩), .pointer (some ⟨b3, 0, none⟩), u6, undef, x8, undef, undef, undef, undef, undef, .map (some m2), .pointer (some ⟨bo, 0, none⟩), .pointer (some ⟨bo, 0, none⟩), .pointer (some ⟨bo, 3, none⟩), .map (some oA), .pointer (some ⟨r1, 0, none⟩), .tuple #[.bool false], .bool false, u22, u23, u24, u25, .pointer (some ⟨bo, 0, none⟩), .pointer (some ⟨bo, 0, none⟩), .pointer (some ⟨bo, 3, none⟩), .map (some oA), .pointer (some ⟨r2, 0, none⟩), x31, x32, x33, x34, x35, x36, x37, x38, undef, undef, undef, undef, undef, undef, undef, undef, undef, undef, undef, undef, undef, undef, undef, undef, undef, undef, undef, undef, undef, undef, undef], defers := ds.map mkD }) (fun _ wr => wr.rangeLeft oA r2) ?_ ?_
      · exact ⟨undef, undef, undef, undef, undef, undef, undef, undef, undef, [], lv, ⟨H2.out.2.2.2.2.2.1, Keep.refl _ _, List.nodup_nil, (fun _ h => by simp at h), fun p hp h => (h (List.mem_map.2 ⟨p, hp, rfl⟩)).elim⟩, rfl⟩
      · rintro a' wr ⟨x8, x31, x32, x33, x34, x35, x36, x37, x38, ds, left, ⟨hit, kMr, hnd, hds, hok⟩, rfl⟩
        have HL := Lib.hid (And.intro hit (And.intro kMr (And.intro hnd (And.intro hds hok))))
        clear hit kMr hnd hds hok
        rcases HL.out.1.next (P := Tryz.prog) kU.inj 0 with ⟨hl0, hnext⟩ | ⟨p, lf, w', hp, hnext, hentry, hit', hk', hsz'⟩
        · have hmm := @run_makeMap Tryz.prog
          obtain ⟨hit, kMr, hnd, hds, hok⟩ := HL.out
          have hn := HN.out
          have hszp := H2.out.2.2.2.2.2.2.2.2.2
          have hr2e := HM.out.2.2
          have kpr : Keep NoB wp wr := HM.out.1.trans kMr (fun _ _ h => h) (fun i hi h => by omega)
          have kwr : Keep NoB w wr := H2.out.1.then kpr
          have hsr : r2 + 1 ≤ wr.heap.size := by have h1 := HM.out.2.1; have h2 := kMr.size; omega
          have hb0 := kpr.heap H2.out.2.1 (NoB.not _)
          have hb1 := kpr.heap H2.out.2.2.1 (NoB.not _)
          obtain ⟨wV, hwV⟩ : ∃ wV, wV = ((wr.alloc (.map #[] 0)).alloc (.cells #[.map (some wr.heap.size)] 273)).alloc (.cells #[.func (.func 89) #[] #[.pointer (some ⟨wr.heap.size + 1, 0, none⟩), .pointer (some ⟨w.heap.size, 0, none⟩), .pointer (some ⟨wr.heap.size + 1 + 1, 0, none⟩)]] 274) := ⟨_, rfl⟩
          have hV : Keep NoB wr wV ∧ wV.heap.size = wr.heap.size + 1 + 1 + 1 ∧ KMap encU wV wr.heap.size [] ∧ wV.heap[wr.heap.size + 1]? = some (.cells #[.map (some wr.heap.size)] 273 (0, 0)) ∧ wV.heap[wr.heap.size + 1 + 1]? = some (.cells #[.func (.func 89) #[] #[.pointer (some ⟨wr.heap.size + 1, 0, none⟩), .pointer (some ⟨w.heap.size, 0, none⟩), .pointer (some ⟨wr.heap.size + 1 + 1, 0, none⟩)]] 274 (0, 0)) := by
            obtain ⟨y1, e1⟩ : ∃ y1, y1 = wr.alloc (.map #[] 0) := ⟨_, rfl⟩
            obtain ⟨y2, e2⟩ : ∃ y2, y2 = y1.alloc (.cells #[.map (some wr.heap.size)] 273) := ⟨_, rfl⟩
            rw [← e1, ← e2] at hwV
            have s1 : y1.heap.size = wr.heap.size + 1 := by rw [e1, World.size_alloc]
            have s2 : y2.heap.size = wr.heap.size + 1 + 1 := by rw [e2, World.size_alloc, s1]
            have k3 : Keep NoB y2 wV := hwV ▸ Keep.alloc _ _ _
            have k2 : Keep NoB y1 y2 := e2 ▸ Keep.alloc _ _ _
            have k1 : Keep NoB wr y1 := e1 ▸ Keep.alloc _ _ _
            have m : KMap encU y1 wr.heap.size [] := by rw [e1]; exact KMap.made wr
            refine ⟨(k1.then k2).then k3, by rw [hwV, World.size_alloc, s2], m.keep (k2.then k3) (NoB.not _), k3.heap ?_ (NoB.not _), ?_⟩
            · rw [← s1, e2]; exact (MapKept.heap_alloc y1 _).1
            · have h := (MapKept.heap_alloc y2 (.cells #[.func (.func 89) #[] #[.pointer (some ⟨wr.heap.size + 1, 0, none⟩), .pointer (some ⟨w.heap.size, 0, none⟩), .pointer (some ⟨wr.heap.size + 1 + 1, 0, none⟩)]] 274)).1
              rw [s2, ← hwV] at h
              exact h
          obtain ⟨kV, hsV, hmV, hbV, hbF⟩ := hV
          have kwV := kwr.then kV
          have hlV := HR.out.2.2.keep kwV (NoB.not _)
          obtain ⟨o3, hr3, hi3⟩ := KMapO.range (P := Tryz.prog) (m := some oA) hlV Tryz.underlying82
          have f0 : wV.cell? ⟨w.heap.size, 0, none⟩ = some (.pointer (some ⟨bo, 0, none⟩)) := by rw [cell_cells (kV.heap hb0 (NoB.not _))]; rfl
          have f3 : wV.cell? ⟨bo, 3, none⟩ = some (.map (some oA)) := kwV.cell HR.out.2.1 (NoB.not _)
          have hoAw := HR.out.2.2.lt
          have hEV : VEnv wV (wr.heap.size + 1) w.heap.size (wr.heap.size + 1 + 1) wr.heap.size bo oA RA :=
            ⟨by rw [cell_cells hbV]; rfl, f0, by rw [cell_cells hbF]; rfl, f3, ⟨lv, hlV, HR.out.1.mono fun _ _ _ _ q => RActIs.keep.k kwV (fun _ _ h => h.elim) (fun i hi h => by have h1 := kwr.size; omega) q⟩, by omega, by have h1 := kwr.size; omega, by omega, by have := block_lt_of_cell HR.out.2.1; have h1 := kwr.size; show bo ≠ _; have h2 : bo < w.heap.size := this; omega, by have h1 := kwr.size; omega⟩
          have hokl : ∀ u ∈ lv.map (·.1), ∃ a, kget RA u = some a ∧ ∀ q ∈ a.parents, q ∈ lv.map (·.1) := fun u hu => by
            obtain ⟨p, hp, rfl⟩ := List.mem_map.1 hu
            obtain ⟨a, h1, h2⟩ := hok p hp (by rw [hl0]; simp)
            exact ⟨a, h1, fun q hq => (H2.out.2.2.2.2.2.2.2.2.1 q).1 (h2 q hq)⟩
          have HV := Lib.hid (And.intro kwr (And.intro kV (And.intro hsV (And.intro hi3 (And.intro hEV (And.intro hokl (And.intro (kV.heap hb1 (NoB.not _)) (And.intro hsr (And.intro hnd (And.intro hds (show VisIs wV wr.heap.size (fun _ => 0) from ⟨[], hmV, fun x => by simp [kget]⟩)))))))))))
          have HWV := Lib.hid hwV
          have g0 : wr.cell? ⟨w.heap.size, 0, none⟩ = some (.pointer (some ⟨bo, 0, none⟩)) := by rw [cell_cells hb0]; rfl
          rw [hwV] at f0 f3 hr3
          have hsz4 : (((wr.alloc (.map #[] 0)).alloc (.cells #[.map (some wr.heap.size)] 273)).alloc (.cells #[.func (.func 89) #[] #[.pointer (some ⟨wr.heap.size + 1, 0, none⟩), .pointer (some ⟨w.heap.size, 0, none⟩), .pointer (some ⟨wr.heap.size + 1 + 1, 0, none⟩)]] 274)).heap.size = wr.heap.size + 1 + 1 + 1 := by simp
          rw [hsz4] at hr3
          clear hit kMr hnd hds hok hn hszp hr2e kpr kwr hsr hb0 hb1 kV hsV hmV hbV hbF kwV hlV hi3 hoAw hEV hokl hwV hsz4
          gi_wp2
          clear hr3 f0 f3 g0 hmm hnext
          rw [← HWV.out]
          obtain ⟨mV, hmVe⟩ : ∃ mV, mV = wr.heap.size := ⟨_, rfl⟩
          rw [← hmVe] at HV ⊢
          have HE := Lib.hid hmVe
          clear hmVe HWV
          obtain ⟨wK, hwK⟩ : ∃ wK, wK = wV.alloc o3 := ⟨_, rfl⟩
          have HSV := Lib.hid HV.out.2.2.1
          rw [HSV.out, ← hwK] at HV
          rw [← hwK]
          have hkK : Keep NoB wV wK := hwK ▸ Keep.alloc _ _ _
          have HK := Lib.hid hkK
          clear hwK hkK
          obtain ⟨wq, rfl⟩ : ∃ wq : World, wq = wr := ⟨_, rfl⟩
          gi_loopw [12] (fun _ wx => ∃ (left : List (Uid × Value)) (V : Uid → Nat), KIter encU wx (some oA) (mV + 1 + 1 + 1) lv left ∧ Keep (fun i => i = mV ∨ i = mV + 1 + 1 + 1) wK wx ∧ DSt (parU RA) V [] ∧ VisIs wx mV V ∧ ∀ x ∈ lv.map (·.1), x ∉ left.map (·.1) → V x = 2)
            (fun _ wx => wx.rangeLeft oA (mV + 1 + 1 + 1))
          case atStart => exact ⟨lv, fun _ => 0, HV.out.2.2.2.1, Keep.refl _ _, DSt.start, HV.out.2.2.2.2.2.2.2.2.2.2.keep HK.out (NoB.not _), fun x hx h => (h hx).elim⟩
          case round =>
            obtain ⟨left3, V, hit3, kx3, hD3, hV3, hm3⟩ := hrel
            have HF3 := Lib.hid (And.intro hit3 (And.intro kx3 (And.intro hD3 (And.intro hV3 hm3))))
            clear hit3 kx3 hD3 hV3 hm3
            have hVK : wV.heap.size = mV + 1 + 1 + 1 := HSV.out
            have kVr : Keep (· = mV) wV wr := HK.out.trans HF3.out.2.1 (fun _ _ h => h.elim) (fun i hi h => by rcases h with h | h <;> omega)
            have hmVw : w.heap.size + 1 < mV := by
              have hE := HE.out
              have hr2e := HM.out.2.2
              have hn := HN.out
              have hszp := H2.out.2.2.2.2.2.2.2.2.2
              have hsr := HV.out.2.2.2.2.2.2.2.1
              omega
            have hdsm : ∀ D ∈ ds, D < mV := fun D hD => by
              have h3 := (Array.getElem?_eq_some_iff.1 (HV.out.2.2.2.2.2.2.2.2.2.1 D hD).2).1
              have hE := HE.out
              omega
            have hr2w : w.heap.size + 1 < r2 := by
              have hr2e := HM.out.2.2
              have hn := HN.out
              have hszp := H2.out.2.2.2.2.2.2.2.2.2
              omega
            have hnotD : ∀ i, i ≤ w.heap.size + 1 → i ∉ ds := fun i hi h => by
              have := (HV.out.2.2.2.2.2.2.2.2.2.1 i h).1; omega
            have HMW := Lib.hid (And.intro hmVw (And.intro hdsm (And.intro hnotD kVr)))
            clear hmVw hdsm hnotD kVr hr2w
            rcases HF3.out.1.next (P := Tryz.prog) kU.inj 0 with ⟨hl3, hnext⟩ | ⟨p, lf, w', hp, hnext, hentry, hit', hk', hsz'⟩
            · obtain ⟨hmVw, hdsm, hnotD, kVr⟩ := HMW.out
              have hb1 := kVr.heap HV.out.2.2.2.2.2.2.1 (by omega)
              have r0 : wr.cell? ⟨w.heap.size + 1, 0, none⟩ = some .nilIface := by rw [cell_cells hb1]; rfl
              have z0 := frozen_cells hb1 0
              have HX := Lib.hid (And.intro hb1 hl3)
              clear hb1 hmVw hdsm hnotD kVr hl3
              gi_wp2
              obtain ⟨hb1, hl3⟩ := HX.out
              obtain ⟨hmVw, hdsm, hnotD, kVr⟩ := HMW.out
              obtain ⟨kwr, kV, hsV, hi3, hEV, hokl, _, hsr, hnd, hds, _⟩ := HV.out
              obtain ⟨hit3, kx3, hD3, hV3, hm3⟩ := HF3.out
              obtain ⟨wz, hwz⟩ : ∃ wz, wz = wr.setCell ⟨w.heap.size + 1, 0, none⟩ .nilIface := ⟨_, rfl⟩
              have ks : Keep (· = w.heap.size + 1) wr wz := hwz ▸ Keep.setCell _ _ _ (fun _ => rfl)
              have hbz : wz.heap[w.heap.size + 1]? = some (.cells #[.nilIface] 62 (0, 0)) := hwz ▸ setCell_cells hb1 0 .nilIface
              rw [← hwz]
              have kqz : Keep (fun i => i = mV ∨ i = w.heap.size + 1) wq wz := (kV.first kVr).trans ks (fun _ _ h => .inl h) (fun _ _ h => .inr h)
              refine leaves_marks (by simp) ds wz hnd (fun E hE => kqz.heap (hds E hE).2 (fun h => by rcases h with h | h; have := hdsm E hE; omega; exact hnotD E (by omega) hE)) (fun w9 k9 => ?_)
              have h9 := k9.heap hbz (hnotD _ (by omega))
              have e0 : w9.cell? ⟨w.heap.size + 1, 0, none⟩ = some .nilIface := by rw [cell_cells h9]; rfl
              have hkey : ∀ x, x ∈ RA.map (·.1) ↔ x ∈ lv.map (·.1) := fun x => ((HR.out.1.back HR.out.2.2.nodup).2.mem_iff).symm
              refine ⟨.nilIface, ?_, .inr ⟨rfl, ?_, fun x => ?_⟩, (kwr.trans kqz (M'' := NoB) (fun _ _ h => h) (fun i hi h => by have hE := HE.out; have h1 := kwr.size; rcases h with h | h <;> omega)).trans k9 (fun _ _ h => h) (fun i hi h => hnotD i (by omega) h)⟩
              · simp [results, Tryz.results57, go_sem, e0, Result.andThen]
              · rintro ⟨u, a, hua, q, hq, hqn⟩
                have h1 : u ∈ lv.map (·.1) := (hkey u).1 (List.mem_map.2 ⟨_, kget_some hua, rfl⟩)
                obtain ⟨a', h2, h3⟩ := hokl u h1
                rw [hua] at h2; cases h2
                obtain ⟨r, hr, hre⟩ := List.mem_map.1 ((hkey q).2 (h3 q hq))
                have h4 := kget_mem HR.out.1.nodup hr
                rw [hre, hqn] at h4; cases h4
              · by_cases hx : x ∈ lv.map (·.1)
                · exact hD3.two x (hm3 x hx (by rw [hl3]; simp))
                · refine Acc.intro _ fun y hy => ?_
                  have h1 : kget RA x = none := by
                    cases hk : kget RA x with
                    | none => rfl
                    | some v => exact (hx ((hkey x).1 (List.mem_map.2 ⟨_, kget_some hk, rfl⟩))).elim
                  have h2 : y ∈ parU RA x := hy
                  unfold parU at h2
                  rw [h1] at h2
                  simp at h2
            · unfold encU at hnext hentry
              obtain ⟨hit3, kx3, hD3, hV3, hm3⟩ := HF3.out
              obtain ⟨kwr, kV, hsV, hi3, hEV, hokl, hb1, hsr, hnd, hds, _⟩ := HV.out
              obtain ⟨hmVw, hdsm, hnotD, kVr⟩ := HMW.out
              have hpm : p ∈ lv := hit3.sub.subset (hp.mem_iff.2 (.head _))
              have hpk : p.1 ∈ lv.map (·.1) := List.mem_map.2 ⟨p, hpm, rfl⟩
              have ka := Keep.alloc w' (.cells #[.string p.1.1, .string p.1.2] 96) NoB
              have hba := (MapKept.heap_alloc w' (.cells #[.string p.1.1, .string p.1.2] 96)).1
              have kVx : Keep (· = mV) wV (w'.alloc (.cells #[.string p.1.1, .string p.1.2] 96)) := (kVr.trans hk' (M'' := (· = mV)) (fun _ _ h => h) (fun i hi h => by omega)).then ka
              have hEx := hEV.keep kVx
              have hVx : VisIs (w'.alloc (.cells #[.string p.1.1, .string p.1.2] 96)) mV V := (hV3.keep hk' (by omega)).keep ka (NoB.not _)
              have HCV := Lib.hid (visit_c RA (lv.map (·.1)) (fun u hu => by obtain ⟨a, h1, _⟩ := hokl u hu; exact ⟨a, h1, trivial⟩) (fun u hu q hq => by
                obtain ⟨a, h1, h2⟩ := hokl u hu
                unfold parU at hq
                rw [h1] at hq
                exact h2 q hq) (mV + 1) w.heap.size (mV + 1 + 1) mV bo oA _ V [] p.1 _ rfl hD3 (fun top l e => by cases e) hpk hEx hVx)
              have cf := hEx.cf
              have d0 : (w'.alloc (.cells #[.string p.1.1, .string p.1.2] 96)).cell? ⟨w'.heap.size, 0, none⟩ = some (.string p.1.1) := by rw [cell_cells hba]; rfl
              have d1 : (w'.alloc (.cells #[.string p.1.1, .string p.1.2] 96)).cell? ⟨w'.heap.size, 1, none⟩ = some (.string p.1.2) := by rw [cell_cells hba]; rfl
              have HP := Lib.hid (And.intro hp (And.intro hit' (And.intro hk' (And.intro ka kVx))))
              clear hit3 kx3 hD3 hV3 hm3 kwr kV hsV hi3 hEV hokl hb1 hsr hnd hds hmVw hdsm hnotD kVr hpm hpk ka hba kVx hEx hVx hp hit' hk' hsz'
              gi_wp2
              clear cf d0 d1 hnext hentry
              refine ⟨trivial, callsIn_wide.2 (HCV.out.mono ?_)⟩
              rintro e w4 ⟨hout, k4⟩
              have kV4 : Keep (· = mV) wV w4 := HP.out.2.2.2.2.trans k4 (fun _ _ h => h) (fun _ _ h => h)
              rcases hout with ⟨⟨a, rfl⟩, hbad⟩ | ⟨rfl, V', e1, e2, e3, e4, e5⟩
              · have hB4 := kV4.heap HV.out.2.2.2.2.2.2.1 (by have := HMW.out.1; omega)
                have r0 : w4.cell? ⟨w.heap.size + 1, 0, none⟩ = some .nilIface := by rw [cell_cells hB4]; rfl
                have z0 := frozen_cells hB4 0
                have HX := Lib.hid (And.intro hbad (And.intro hB4 kV4))
                clear hbad hB4 kV4 k4
                gi_wp2
                obtain ⟨hbad, hB4, kV4⟩ := HX.out
                obtain ⟨hmVw, hdsm, hnotD, kVr⟩ := HMW.out
                obtain ⟨kwr, kV, hsV, hi3, hEV, hokl, _, hsr, hnd, hds, _⟩ := HV.out
                obtain ⟨wz, hwz⟩ : ∃ wz, wz = w4.setCell ⟨w.heap.size + 1, 0, none⟩ (.iface 296 (.pointer (some a))) := ⟨_, rfl⟩
                have ks : Keep (· = w.heap.size + 1) w4 wz := hwz ▸ Keep.setCell _ _ _ (fun _ => rfl)
                have hbz : wz.heap[w.heap.size + 1]? = some (.cells #[.iface 296 (.pointer (some a))] 62 (0, 0)) := hwz ▸ setCell_cells hB4 0 _
                rw [← hwz]
                have kqz : Keep (fun i => i = mV ∨ i = w.heap.size + 1) wq wz := (kV.first kV4).trans ks (fun _ _ h => .inl h) (fun _ _ h => .inr h)
                refine leaves_marks (by simp) ds wz hnd (fun E hE => kqz.heap (hds E hE).2 (fun h => by rcases h with h | h; have := hdsm E hE; omega; exact hnotD E (by omega) hE)) (fun w9 k9 => ?_)
                have h9 := k9.heap hbz (hnotD _ (by omega))
                have e0 : w9.cell? ⟨w.heap.size + 1, 0, none⟩ = some (.iface 296 (.pointer (some a))) := by rw [cell_cells h9]; rfl
                refine ⟨.iface 296 (.pointer (some a)), ?_, .inl ⟨⟨a, rfl⟩, .inr hbad⟩, (kwr.trans kqz (M'' := NoB) (fun _ _ h => h) (fun i hi h => by have hE := HE.out; have h1 := kwr.size; rcases h with h | h <;> omega)).trans k9 (fun _ _ h => h) (fun i hi h => hnotD i (by omega) h)⟩
                simp [results, Tryz.results57, go_sem, e0, Result.andThen]
              · have HX := Lib.hid (And.intro e1 (And.intro e2 (And.intro e3 (And.intro e4 (And.intro e5 k4)))))
                clear e1 e2 e3 e4 e5 k4 kV4
                gi_wp2
                go_roundw
                case rel =>
                  obtain ⟨e1, e2, e3, e4, e5, k4⟩ := HX.out
                  obtain ⟨hp, hit', hk', ka, kVx⟩ := HP.out
                  obtain ⟨hit3, kx3, hD3, hV3, hm3⟩ := HF3.out
                  have hoA : ∀ b, some oA = some b → b ≠ mV := fun b e => by
                    have h1 := HV.out.2.2.2.2.1.na
                    cases e; exact h1
                  refine ⟨lf, V', (hit'.keep ka (fun _ _ h => h) (fun h => h)).keep k4 (fun b e h => hoA b e h) (by omega), ((kx3.trans hk' (M'' := fun i => i = mV ∨ i = mV + 1 + 1 + 1) (fun _ _ h => h) (fun _ _ h => .inr h)).then ka).trans k4 (fun _ _ h => h) (fun _ _ h => .inl h), e1, e5, fun x hx hxl => ?_⟩
                  by_cases e : x = p.1
                  · rw [e]; exact e2
                  · exact e4 x (hm3 x hx (fun h => by
                      have h3 := (hp.map (·.1)).mem_iff.1 h
                      simp only [List.map_cons, List.mem_cons] at h3
                      exact h3.elim e hxl))
                case measure =>
                  obtain ⟨e1, e2, e3, e4, e5, k4⟩ := HX.out
                  obtain ⟨hp, hit', hk', ka, kVx⟩ := HP.out
                  have hoA : ∀ b, some oA = some b → b ≠ mV := fun b e => by
                    have h1 := HV.out.2.2.2.2.1.na
                    cases e; exact h1
                  rw [((hit'.keep ka (fun _ _ h => h) (fun h => h)).keep k4 (fun b e h => hoA b e h) (by omega)).left_eq, HF3.out.1.left_eq]
                  have := hp.length_eq
                  simp only [List.length_cons] at this
                  omega
        · obtain ⟨hit, kMr, hnd, hds, hok⟩ := HL.out
          have hpm : p ∈ lv := hit.sub.subset (hp.mem_iff.2 (.head _))
          obtain ⟨pk, pv⟩ := p
          obtain ⟨ra, hra0, hai⟩ := (HR.out.1.back HR.out.2.2.nodup).1 pk pv hpm
          have hra : kget RA pk = some ra := kget_mem HR.out.1.nodup hra0
          clear hra0
          obtain ⟨an, pv2, tv, rfl, ⟨bs, lp, rfl, _, hmbs, hub⟩, htv⟩ := hai
          have hn := HN.out
          have hszp := H2.out.2.2.2.2.2.2.2.2.2
          have hr2e := HM.out.2.2
          have kwM : Keep NoB w wM := H2.out.1.then HM.out.1
          have kw' : Keep NoB w w' := kwM.trans (kMr.trans hk' (M'' := (· = r2)) (fun _ _ h => h) (fun _ _ h => h)) (fun _ _ h => h) (fun i hi h => by omega)
          have hmb' := hmbs.keep kw' (NoB.not _)
          have htv1 : tv.oneCell' = true := by
            cases hq : ra.app with
            | none => rw [hq] at htv; obtain rfl := htv; rfl
            | some x => rw [hq] at htv; obtain ⟨_, _, _, _, rfl, _⟩ := htv; rfl
          have hst := fun w a m => run_store Tryz.prog w a tv m htv1
          dsimp only at hnext hentry
          unfold encU at hnext hentry
          have kx := Keep.alloc w' (.cells #[.string ra.uid.1, .string ra.uid.2, .map (some bs), .map none, .int .u64 0, .map none, .int .u64 0, .map an, tv] 111) NoB
          have hbx := (MapKept.heap_alloc w' (.cells #[.string ra.uid.1, .string ra.uid.2, .map (some bs), .map none, .int .u64 0, .map none, .int .u64 0, .map an, tv] 111)).1
          have c2 : (w'.alloc (.cells #[.string ra.uid.1, .string ra.uid.2, .map (some bs), .map none, .int .u64 0, .map none, .int .u64 0, .map an, tv] 111)).cell? ⟨w'.heap.size, 2, none⟩ = some (.map (some bs)) := by rw [cell_cells hbx]; rfl
          have HP := Lib.hid (And.intro hp (And.intro hit' (And.intro hk' (And.intro hsz' (And.intro hpm (And.intro hra (And.intro hmb' (And.intro hub (And.intro kw' kx)))))))))
          clear hit kMr hnd hds hok hp hit' hk' hsz' hpm hra hmb' hub kw' kx hbx htv hmbs hn hszp hr2e kwM htv1
          gi_wp2
          clear c2 hst hnext hentry
          refine ⟨trivial, callsIn_wide.2 ((uidsAllI_c (some bs) _).mono ?_)⟩
          rintro e w3 ⟨bi, rfl, hbi, hbc, k3⟩
          have HK3 := Lib.hid (And.intro hbi (And.intro hbc k3))
          clear hbi hbc k3
          gi_wp2
          obtain ⟨hp, hit', hk', hsz', hpm, hra, hmb', hub, kw', kx⟩ := HP.out
          obtain ⟨hbi, hbc, k3⟩ := HK3.out
          have k3' : Keep NoB w' w3 := kx.then k3
          have kw3 : Keep NoB w w3 := kw'.then k3'
          have hmb3 := hmb'.keep k3' (NoB.not _)
          have hc3 : w3.cell? ⟨bi, 0, none⟩ = some (.map (some bs)) := by rw [cell_cells hbc]; rfl
          have hwp3 : Keep NoB wp w3 := (HM.out.1.trans (HL.out.2.1.trans hk' (M'' := (· = r2)) (fun _ _ h => h) (fun _ _ h => h)) (M'' := NoB) (fun _ _ h => h) (fun i hi h => by have := HM.out.2.2; omega)).then k3'
          have hb1 : w3.heap[w.heap.size + 1]? = some (.cells #[.nilIface] 62 (0, 0)) := hwp3.heap H2.out.2.2.1 (NoB.not _)
          have hb3c : w3.heap[b3]? = some (.cells #[.map (some m2)] 272 (0, 0)) := hwp3.heap H2.out.2.2.2.1 (NoB.not _)
          have hmb2 := H2.out.2.2.2.2.2.2.1.keep hwp3 (NoB.not _)
          have hsz3 : r2 + 1 < w3.heap.size := by have h1 := HM.out.2.1; have h2 := HL.out.2.1.size; have h3 := kx.size; have h4 := k3.size; rw [World.size_alloc] at h4; omega
          have hseq := uidsSeqM 7 (by omega) bi bs lp w3 hc3 hmb3
          have HZ := Lib.hid (And.intro hb1 (And.intro hb3c (And.intro hmb2 (And.intro hsz3 (And.intro k3' (And.intro kw3 hmb3))))))
          clear hp hit' hk' hsz' hpm hra hmb' hub kw' kx hbi hbc k3 k3' kw3 hc3 hwp3 hb1 hb3c hmb2 hsz3
          refine wpIn_rangeFunc_ownH (F := Fence.wide) (n := 8) (encs := fun p : {p : Uid // p ∈ lp.map (·.1)} => #[encU p.1]) (S := fun xs => (xs.map (·.1)).Perm (lp.map (·.1))) (Sp := fun _ => True) (Kp := KpM bs) rfl (by omega) (gf := 66) (lb := #[.pointer (some ⟨bi, 0, none⟩)]) rfl trivial (enters_of Tryz.func66 (by kernel_rfl) rfl) hseq KpM.trans (KpM.record hmb3.lt) (Below.refl _ _) (fun _ => rfl)
            (fun pre W => Keep NoB w3 W ∧ ∀ q ∈ pre, q.1 ∈ lb.map (·.1))
            (fun c pre W => c = .ret ∧ Keep (· = w.heap.size + 1) w3 W ∧ (∃ a, W.heap[w.heap.size + 1]? = some (.cells #[.iface 296 (.pointer (some a))] 62 (0, 0))) ∧ UndefPar RA)
            ?_ ?_ ⟨Keep.refl _ _, fun _ h => by simp at h⟩
            (fun x a' W => ∃ blk, a' = { tmps := #[v0, .pointer (some ⟨bo, 0, none⟩), undef, .pointer (some ⟨w.heap.size, 0, none⟩), .pointer (some ⟨w.heap.size + 1, 0, none⟩), .pointer (some ⟨b3, 0, none⟩), u6, undef, .pointer (some ⟨w'.heap.size, 0, none⟩), .pointer (some ⟨blk, 0, none⟩), undef, undef, undef, undef, .map (some m2), .pointer (some ⟨bo, 0, none⟩), .pointer (some ⟨bo, 0, none⟩), .pointer (some ⟨bo, 3, none⟩), .map (some oA), .pointer (some ⟨r1, 0, none⟩), .tuple #[.bool false], .bool false, u22, u23, u24, u25, .pointer (some ⟨bo, 0, none⟩), .pointer (some ⟨bo, 0, none⟩), .pointer (some ⟨bo, 3, none⟩), .map (some oA), .pointer (some ⟨r2, 0, none⟩), .tuple #[.bool true, .agg #[.string pk.1, .string pk.2], .agg #[.string ra.uid.1, .string ra.uid.2, .map (some bs), .map none, .int .u64 0, .map none, .int .u64 0, .map an, tv]], .bool true, .tuple #[.agg #[.string pk.1, .string pk.2], .agg #[.string ra.uid.1, .string ra.uid.2, .map (some bs), .map none, .int .u64 0, .map none, .int .u64 0, .map an, tv]], .agg #[.string ra.uid.1, .string ra.uid.2, .map (some bs), .map none, .int .u64 0, .map none, .int .u64 0, .map an, tv], .pointer (some ⟨w'.heap.size, 0, none⟩), .pointer (some ⟨w'.heap.size, 2, none⟩), .agg #[.map (some bs)], .func (.func 66) #[] #[.pointer (some ⟨bi, 0, none⟩)], .agg #[.string x.1.1, .string x.1.2], undef, undef, undef, undef, undef, undef, undef, undef, undef, undef, undef, undef, undef, undef, undef, undef, undef, undef, undef, undef, undef, undef], defers := [] } ∧ w3.heap.size ≤ blk ∧ W.heap[blk]? = some (.cells #[.string x.1.1, .string x.1.2] 96 (0, 0)))
            ?_ ?_ ?_ ?_ ?_
          · rintro s A B row ⟨h1, h2⟩ hg hr
            have kg : Keep (fun i => w3.heap.size ≤ i) A B := Keep.grown hg fun i e _ => (hr i e).1
            exact ⟨h1.trans kg (fun _ _ h => h) (fun i hi h => by omega), h2⟩
          · rintro c s A B row ⟨h1, h2, ⟨a, h3⟩, h4⟩ hg hr
            have kg : Keep (fun i => w3.heap.size ≤ i) A B := Keep.grown hg fun i e _ => (hr i e).1
            have hlt := (Array.getElem?_eq_some_iff.1 HZ.out.1).1
            exact ⟨h1, h2.trans kg (fun _ _ h => h) (fun i hi h => by omega), ⟨a, kg.heap h3 (by omega)⟩, h4⟩
          · rintro x a' s A B row ⟨blk, e, h1, h2⟩ hg hr
            refine ⟨blk, e, h1, (hg.block _ (Array.getElem?_eq_some_iff.1 h2).1 (fun e => ?_)).trans h2⟩
            obtain ⟨_, o, ho, hc⟩ := hr blk e.symm
            rw [h2] at ho; cases ho; cases hc
          · rintro l pre ⟨x, hx⟩ W K hI hK
            have HK := Lib.hid (And.intro hI hK)
            clear hI hK
            rw [show ((#[39] : Array Tmp).zip #[encU x]).foldl (fun t (q : Tmp × Value) => t.setIfInBounds q.1 q.2) #[v0, .pointer (some ⟨bo, 0, none⟩), undef, .pointer (some ⟨w.heap.size, 0, none⟩), .pointer (some ⟨w.heap.size + 1, 0, none⟩), .pointer (some ⟨b3, 0, none⟩), u6, undef, .pointer (some ⟨w'.heap.size, 0, none⟩), undef, undef, undef, undef, undef, .map (some m2), .pointer (some ⟨bo, 0, none⟩), .pointer (some ⟨bo, 0, none⟩), .pointer (some ⟨bo, 3, none⟩), .map (some oA), .pointer (some ⟨r1, 0, none⟩), .tuple #[.bool false], .bool false, u22, u23, u24, u25, .pointer (some ⟨bo, 0, none⟩), .pointer (some ⟨bo, 0, none⟩), .pointer (some ⟨bo, 3, none⟩), .map (some oA), .pointer (some ⟨r2, 0, none⟩), .tuple #[.bool true, .agg #[.string pk.1, .string pk.2], .agg #[.string ra.uid.1, .string ra.uid.2, .map (some bs), .map none, .int .u64 0, .map none, .int .u64 0, .map an, tv]], .bool true, .tuple #[.agg #[.string pk.1, .string pk.2], .agg #[.string ra.uid.1, .string ra.uid.2, .map (some bs), .map none, .int .u64 0, .map none, .int .u64 0, .map an, tv]], .agg #[.string ra.uid.1, .string ra.uid.2, .map (some bs), .map none, .int .u64 0, .map none, .int .u64 0, .map an, tv], .pointer (some ⟨w'.heap.size, 0, none⟩), .pointer (some ⟨w'.heap.size, 2, none⟩), .agg #[.map (some bs)], .func (.func 66) #[] #[.pointer (some ⟨bi, 0, none⟩)], undef, undef, undef, undef, undef, undef, undef, undef, undef, undef, undef, undef, undef, undef, undef, undef, undef, undef, undef, undef, undef, undef, undef] = #[v0, .pointer (some ⟨bo, 0, none⟩), undef, .pointer (some ⟨w.heap.size, 0, none⟩), .pointer (some ⟨w.heap.size + 1, 0, none⟩), .pointer (some ⟨b3, 0, none⟩), u6, undef, .pointer (some ⟨w'.heap.size, 0, none⟩), undef, undef, undef, undef, undef, .map (some m2), .pointer (some ⟨bo, 0, none⟩), .pointer (some ⟨bo, 0, none⟩), .pointer (some ⟨bo, 3, none⟩), .map (some oA), .pointer (some ⟨r1, 0, none⟩), .tuple #[.bool false], .bool false, u22, u23, u24, u25, .pointer (some ⟨bo, 0, none⟩), .pointer (some ⟨bo, 0, none⟩), .pointer (some ⟨bo, 3, none⟩), .map (some oA), .pointer (some ⟨r2, 0, none⟩), .tuple #[.bool true, .agg #[.string pk.1, .string pk.2], .agg #[.string ra.uid.1, .string ra.uid.2, .map (some bs), .map none, .int .u64 0, .map none, .int .u64 0, .map an, tv]], .bool true, .tuple #[.agg #[.string pk.1, .string pk.2], .agg #[.string ra.uid.1, .string ra.uid.2, .map (some bs), .map none, .int .u64 0, .map none, .int .u64 0, .map an, tv]], .agg #[.string ra.uid.1, .string ra.uid.2, .map (some bs), .map none, .int .u64 0, .map none, .int .u64 0, .map an, tv], .pointer (some ⟨w'.heap.size, 0, none⟩), .pointer (some ⟨w'.heap.size, 2, none⟩), .agg #[.map (some bs)], .func (.func 66) #[] #[.pointer (some ⟨bi, 0, none⟩)], .agg #[.string x.1, .string x.2], undef, undef, undef, undef, undef, undef, undef, undef, undef, undef, undef, undef, undef, undef, undef, undef, undef, undef, undef, undef, undef, undef] by simp [encU]]
            gi_wp2_with (rw [Oper.semAt_eq _ _ _ (fun c h => by cases h)]; go_simp; try go_bits)
            obtain ⟨⟨h1, h2⟩, hK⟩ := HK.out
            have ka : Keep NoB W (W.alloc (.cells #[.string x.1, .string x.2] 96)) := Keep.alloc _ _ _
            refine hK _ _ ((KeepsOthers.alloc W _).from _) (KpM.keep ka (NoB.not _) (fun _ _ h _ => h.elim)) ⟨h1.then ka, h2⟩ ⟨W.heap.size, rfl, h1.size, (MapKept.heap_alloc W _).1⟩
          · rintro l pre ⟨x, hx⟩ a' W hl hL ⟨h1, h2⟩ ⟨blk, rfl, hblk, hbc⟩ hlen
            dsimp only at hbc
            obtain ⟨hb1, hb3c, hmb2, hsz3, k3', kw3, _⟩ := HZ.out
            have hbW := h1.heap hb3c (NoB.not _)
            have g5 : W.cell? ⟨b3, 0, none⟩ = some (.map (some m2)) := by rw [cell_cells hbW]; rfl
            have d0 : W.cell? ⟨blk, 0, none⟩ = some (.string x.1) := by rw [cell_cells hbc]; rfl
            have d1 : W.cell? ⟨blk, 1, none⟩ = some (.string x.2) := by rw [cell_cells hbc]; rfl
            have hlk0 := (hmb2.keep h1 (NoB.not _)).lookup (P := Tryz.prog) kU Tryz.underlying272 (z := .bool false) (by kernel_rfl) x false
            have HS := Lib.hid (And.intro h1 (And.intro h2 hbW))
            by_cases hxk : x ∈ lb.map (·.1)
            · obtain ⟨q, hq, hqe⟩ := List.mem_map.1 hxk
              have hlk : (Instr.lookup 272 (.map (some m2)) (.agg #[.string x.1, .string x.2]) false).run Tryz.prog W = .ok (.bool true) W := by
                have e1 : kget lb x = some (.bool true) := by rw [← hqe]; rw [kget_mem hmb2.nodup hq, H2.out.2.2.2.2.2.2.2.1 q hq]
                rw [e1] at hlk0; exact hlk0
              have HXK := Lib.hid hxk
              clear h1 h2 hbW hb1 hb3c hmb2 hsz3 k3' kw3 hlk0 hbc hl hL hlen hxk hq hqe
              gi_wp2_with (rw [Oper.semAt_eq _ _ _ (fun c h => by cases h)]; go_simp; try go_bits)
              obtain ⟨h1, h2, _⟩ := HS.out
              refine ⟨KeepsFrom.refl _ _, KpM.keep (Keep.refl NoB W) (NoB.not _) (fun _ _ h _ => h.elim), h1, fun q hq => ?_⟩
              rcases List.mem_append.1 hq with hq | hq
              · exact h2 q hq
              · rw [List.mem_singleton.1 hq]; exact HXK.out
            · have hlk : (Instr.lookup 272 (.map (some m2)) (.agg #[.string x.1, .string x.2]) false).run Tryz.prog W = .ok (.bool false) W := by
                have e1 : kget lb x = none := by
                  cases hk : kget lb x with
                  | none => rfl
                  | some v => exact (hxk (List.mem_map.2 ⟨_, kget_some hk, rfl⟩)).elim
                rw [e1] at hlk0; exact hlk0
              have HXK := Lib.hid hxk
              clear h1 h2 hbW hb1 hb3c hmb2 hsz3 k3' kw3 hlk0 hbc hl hL hlen hxk
              gi_wp2_with (rw [Oper.semAt_eq _ _ _ (fun c h => by cases h)]; go_simp; try go_bits)
              refine ⟨trivial, CallsIn.inRound l (callsIn_wide.2 ((errorsNew_c _ W).mono ?_))⟩
              rintro e w4 ⟨a, rfl, k4⟩
              have hB4 := (HS.out.1.then k4).heap HZ.out.1 (NoB.not _)
              have r0 : w4.cell? ⟨w.heap.size + 1, 0, none⟩ = some .nilIface := by rw [cell_cells hB4]; rfl
              have z0 := frozen_cells hB4 0
              have HX := Lib.hid (And.intro k4 hB4)
              clear k4 hB4 g5 d0 d1 hlk
              gi_wp2_with (rw [Oper.semAt_eq _ _ _ (fun c h => by cases h)]; go_simp; try go_bits)
              obtain ⟨k4, hB4⟩ := HX.out
              have kz := Keep.setCell (M := (· = w.heap.size + 1)) w4 ⟨w.heap.size + 1, 0, none⟩ (.iface 296 (.pointer (some a))) (fun _ => rfl)
              refine ⟨(⟨k4.size, fun i o hi ho _ => k4.heap ho (NoB.not _)⟩ : KeepsFrom w3.heap.size W w4).trans ((KeepsOthers.setCell _ _ _).from _), rfl, ((HS.out.1.then k4).trans kz (fun _ _ h => h.elim) (fun _ _ h => h)), ⟨a, setCell_cells hB4 0 _⟩, pk, ra, HP.out.2.2.2.2.2.1, x, (HP.out.2.2.2.2.2.2.2.1 x).1 hx, ?_⟩
              cases hk : kget RA x with
              | none => rfl
              | some y =>
                have h3 : x ∈ RA.map (·.1) := List.mem_map.2 ⟨_, kget_some hk, rfl⟩
                have h4 : x ∈ lv.map (·.1) := (HR.out.1.back HR.out.2.2.nodup).2.mem_iff.2 h3
                exact (HXK.out ((H2.out.2.2.2.2.2.2.2.2.1 x).2 h4)).elim
          · rintro D xs W hD hS ⟨h1, h2⟩ hDef
            obtain ⟨hb1, hb3c, hmb2, hsz3, k3', kw3, _⟩ := HZ.out
            obtain ⟨hp, hit', hk', hsz', hpm, hra, hmb', hub, kw', kx⟩ := HP.out
            obtain ⟨hit, kMr, hnd, hds, hok⟩ := HL.out
            have hr2D : ∀ E ∈ ds, E < w3.heap.size := fun E hE => by
              have h3 := (Array.getElem?_eq_some_iff.1 (hds E hE).2).1
              have h4 := hk'.size
              have h5 := k3'.size
              omega
            have kW : Keep NoB w' W := k3'.then h1
            have hitW := hit'.keep kW (fun _ _ h => h) (fun h => h)
            refine ⟨⟨_, _, _, _, _, _, _, _, _, D :: ds, lf, ⟨hitW, (kMr.trans hk' (M'' := (· = r2)) (fun _ _ h => h) (fun _ _ h => h)).then kW, List.nodup_cons.2 ⟨fun h => by have := hr2D D h; omega, hnd⟩, fun E hE => ?_, fun q hq hql => ?_⟩, rfl⟩, ?_⟩
            · rcases List.mem_cons.1 hE with rfl | hE
              · exact ⟨by omega, hDef⟩
              · obtain ⟨h3, h4⟩ := hds E hE
                exact ⟨h3, (hk'.then kW).heap h4 (by omega)⟩
            · by_cases hqe : q.1 = pk
              · rw [hqe]
                refine ⟨ra, hra, fun y hy => ?_⟩
                have h3 : y ∈ xs.map (·.1) := hS.mem_iff.2 ((hub y).2 hy)
                obtain ⟨z, hz, rfl⟩ := List.mem_map.1 h3
                exact h2 z hz
              · exact hok q hq (fun h => by
                  have h3 := (hp.map (·.1)).mem_iff.1 h
                  simp only [List.map_cons, List.mem_cons] at h3
                  exact h3.elim hqe hql)
            · show W.rangeLeft oA r2 < wr.rangeLeft oA r2
              rw [hitW.left_eq, hit.left_eq]
              have := hp.length_eq
              simp only [List.length_cons] at this
              omega
          · rintro D c pre W hD _ ⟨rfl, h2, ⟨a, h3⟩, hbad⟩ hDef
            have HX := Lib.hid (And.intro h2 (And.intro h3 (And.intro hbad hDef)))
            clear h2 h3 hbad hDef
            gi_wp2
            obtain ⟨h2, h3, hbad, hDef⟩ := HX.out
            obtain ⟨hb1, hb3c, hmb2, hsz3, k3', kw3, _⟩ := HZ.out
            obtain ⟨hp, hit', hk', hsz', hpm, hra, hmb', hub, kw', kx⟩ := HP.out
            obtain ⟨hit, kMr, hnd, hds, hok⟩ := HL.out
            have hn := HN.out
            have hszp := H2.out.2.2.2.2.2.2.2.2.2
            have hr2e := HM.out.2.2
            have hr2D : ∀ E ∈ ds, E < w3.heap.size := fun E hE => by
              have h3 := (Array.getElem?_eq_some_iff.1 (hds E hE).2).1
              have h4 := hk'.size
              have h5 := k3'.size
              omega
            refine leaves_marks (by simp) (D :: ds) W (List.nodup_cons.2 ⟨fun h => by have := hr2D D h; omega, hnd⟩) (fun E hE => ?_) (fun w9 k9 => ?_)
            · rcases List.mem_cons.1 hE with rfl | hE
              · exact hDef
              · obtain ⟨h4, h5⟩ := hds E hE
                exact (((hk'.then k3').trans h2 (M'' := fun i => i = r2 ∨ i = w.heap.size + 1) (fun _ _ h => .inl h) (fun _ _ h => .inr h))).heap h5 (fun h => by rcases h with h | h <;> omega)
            · have hnot : ∀ i, i ≤ r2 → i ∉ D :: ds := fun i hi h => by
                rcases List.mem_cons.1 h with rfl | h
                · omega
                · have := (hds i h).1; omega
              have h9 := k9.heap h3 (hnot _ (by omega))
              have e0 : w9.cell? ⟨w.heap.size + 1, 0, none⟩ = some (.iface 296 (.pointer (some a))) := by rw [cell_cells h9]; rfl
              refine ⟨.iface 296 (.pointer (some a)), ?_, .inl ⟨⟨a, rfl⟩, .inl hbad⟩, (kw3.trans h2 (M'' := NoB) (fun _ _ h => h) (fun i hi h => by omega)).trans k9 (fun _ _ h => h) (fun i hi h => hnot i (by omega) h)⟩
              simp [results, Tryz.results57, go_sem, e0, Result.andThen]
    · unfold encU at hnext hentry
      obtain ⟨hit, kwr, hmb, hbv, hbk⟩ := HF.out
      have hne : r1 ≠ m2 := by have := HN.out; omega
      have hmo : ∀ b, some oA = some b → b ≠ m2 := fun b e => by
        have h1 := HR.out.2.2.lt
        have h2 := HN.out.2.1
        cases e; omega
      have ka := Keep.alloc w' (.cells #[.string p.1.1, .string p.1.2] 96) NoB
      have hmb2 := (hmb.keep hk' (fun e => hne e.symm)).keep ka (NoB.not _)
      obtain ⟨ob, hup0, hmb3⟩ := hmb2.update (P := Tryz.prog) kU Tryz.underlying272 p.1 (.bool true)
      have hup : (Instr.mapUpdate 272 (.map (some m2)) (.agg #[.string p.1.1, .string p.1.2]) (.bool true)).run Tryz.prog (w'.alloc (.cells #[.string p.1.1, .string p.1.2] 96)) = .ok () (ChangeMaps.setBlock (w'.alloc (.cells #[.string p.1.1, .string p.1.2] 96)) m2 ob) := hup0
      have hb3 : (w'.alloc (.cells #[.string p.1.1, .string p.1.2] 96)).heap[b3]? = some (.cells #[.map (some m2)] 272 (0, 0)) := by
        have hn := HN.out
        exact (((HKL.out.1.first kwr).trans hk' (M'' := fun i => i = m2 ∨ i = r1) (fun _ _ h => h) (fun _ _ h => .inr h)).then ka).heap HB.out.2.2.2.2.2.1 (fun h => by rcases h with h | h <;> omega)
      have g5 : (w'.alloc (.cells #[.string p.1.1, .string p.1.2] 96)).cell? ⟨b3, 0, none⟩ = some (.map (some m2)) := by rw [cell_cells hb3]; rfl
      have HP := Lib.hid (And.intro hp (And.intro hit' (And.intro hk' (And.intro ka (And.intro hmb3 (And.intro hne hmo))))))
      clear hit kwr hmb hbv hbk hne hmo ka hmb2 hup0 hmb3 hb3 hp hit' hk' hsz'
      gi_wp2
      go_roundw
      case rel =>
        obtain ⟨hp, hit', hk', ka, hmb3, hne, hmo⟩ := HP.out
        obtain ⟨hit, kwr, hmb, hbv, hbk⟩ := HF.out
        have ks : Keep (· = m2) (w'.alloc (.cells #[.string p.1.1, .string p.1.2] 96)) (ChangeMaps.setBlock (w'.alloc (.cells #[.string p.1.1, .string p.1.2] 96)) m2 ob) := Keep.setBlock _ _ _ (fun _ => rfl)
        obtain ⟨hkeys, hnew, _⟩ := perm_keys hp ((hit.sub.map _).nodup hit.map.nodup)
        refine ⟨lf, (hit'.keep ka (fun _ _ h => h) (fun h => h)).keep ks (fun b e h => hmo b e h) hne, ((kwr.trans hk' (M'' := fun i => i = m2 ∨ i = r1) (fun _ _ h => h) (fun _ _ h => .inr h)).then ka).trans ks (fun _ _ h => h) (fun _ _ h => .inl h), _, hmb3, kput_val hbv, fun x => ?_⟩
        rw [kput_mem, hbk]
        have hpm : p ∈ lv := hit.sub.subset (hp.mem_iff.2 (.head _))
        constructor
        · rintro (rfl | ⟨h1, h2⟩)
          · exact ⟨List.mem_map.2 ⟨p, hpm, rfl⟩, hnew⟩
          · exact ⟨h1, fun h => h2 ((hkeys x).2 (.inr h))⟩
        · rintro ⟨h1, h2⟩
          by_cases e : x = p.1
          · exact .inl e
          · exact .inr ⟨h1, fun h => ((hkeys x).1 h).elim e h2⟩
      case measure =>
        obtain ⟨hp, hit', hk', ka, hmb3, hne, hmo⟩ := HP.out
        have ks : Keep (· = m2) (w'.alloc (.cells #[.string p.1.1, .string p.1.2] 96)) (ChangeMaps.setBlock (w'.alloc (.cells #[.string p.1.1, .string p.1.2] 96)) m2 ob) := Keep.setBlock _ _ _ (fun _ => rfl)
        rw [((hit'.keep ka (fun _ _ h => h) (fun h => h)).keep ks (fun b e h => hmo b e h) hne).left_eq, HF.out.1.left_eq]
        have := hp.length_eq
        simp only [List.length_cons] at this
        omega
end Go.Proofs.YtedgonoeeeiilaaGreatDoor
