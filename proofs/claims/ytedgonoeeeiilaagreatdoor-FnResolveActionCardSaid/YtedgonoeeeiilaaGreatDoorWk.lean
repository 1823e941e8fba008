/- The walk of the function that resolves a whole schema. -/
import Derived.Test.YtedgonoeeeiilaaGreatDoorSch
import Derived.Test.YtedgonoeeeiilaaGreatDoorKc
import Derived.Test.YtedgonoeeeiilaaGreatDoorJVa
import Derived.StillTailTactics
namespace Go.Proofs.YtedgonoeeeiilaaGreatDoor
open Go.RowKit

/-- What lies behind the pointer that comes back. -/
structure ROut (w : World) (c : Nat) (oE oN oA : Nat) (RE : List (Str × REnt)) (RN : List (Str × (Str × List Str))) (RA : List (Uid × RAct)) : Prop where
  c1 : w.cell? ⟨c, 1, none⟩ = some (.map (some oE))
  c2 : w.cell? ⟨c, 2, none⟩ = some (.map (some oN))
  c3 : w.cell? ⟨c, 3, none⟩ = some (.map (some oA))
  ents : ∃ lv, KMap Value.string w oE lv ∧ MapRel (REntIs w NoB) RE lv
  enums : ∃ lv, KMap Value.string w oN lv ∧ MapRel (REnumIs w NoB) RN lv
  acts : ∃ lv, KMap encU w oA lv ∧ MapRel (RActIs w NoB) RA lv

/-- What is wrong with a schema ahead of its types. -/
def Wrong (B : SpD) (D : Str → SpD) (S : List Str) : Prop :=
  dupIn B ∨ (∃ s ∈ S, dupIn (D s)) ∨ ∃ s ∈ S, Hides (B.en ++ B.nn ++ B.cn) B.an (D s).names
def Unres (B : SpD) (D : Str → SpD) (S : List Str) (V : Env) (fuel : Nat) : Prop :=
  (∃ n ∈ B.en, resEnt V fuel ⟨#[]⟩ n (B.AE n) = some none) ∨ (∃ s ∈ S, ∃ n ∈ (D s).en, resEnt V fuel s n ((D s).AE n) = some none) ∨
  (∃ n ∈ B.an, resAct V fuel ⟨#[]⟩ n (B.AA n) = some none) ∨ ∃ s ∈ S, ∃ n ∈ (D s).an, resAct V fuel s n ((D s).AA n) = some none
/-- What is wrong with the groups. -/
def BadMem (RA : List (Uid × RAct)) : Prop := UndefPar RA ∨ ∃ x, ¬ Acc (Up (parU RA)) x
/-- The resolved actions, as a list. -/
structure ActsAre (B : SpD) (D : Str → SpD) (S : Str → Prop) (V : Env) (fuel : Nat) (RA : List (Uid × RAct)) : Prop where
  made : Made (ActsOf V fuel B D S) RA
  nodup : (RA.map (·.1)).Nodup

def ResolveOut (B : SpD) (D : Str → SpD) (S : List Str) (fuel : Nat) (e : Ending) (w' : World) : Prop :=
  ((∃ a, e = .returned (.tuple #[.pointer none, .iface 296 (.pointer (some a))])) ∧ (Wrong B D S ∨ ∃ V, EnvIs B D (· ∈ S) V ∧ (¬ Acyc V ∨ Acyc V ∧ (Unres B D S V fuel ∨ ∃ RA, ActsAre B D (· ∈ S) V fuel RA ∧ BadMem RA)))) ∨
  (¬ Wrong B D S ∧ ∃ V, EnvIs B D (· ∈ S) V ∧ Acyc V ∧ (∀ n ∈ B.en, ∃ x, resEnt V fuel ⟨#[]⟩ n (B.AE n) = some (some x)) ∧ (∀ s ∈ S, ∀ n ∈ (D s).en, ∃ x, resEnt V fuel s n ((D s).AE n) = some (some x)) ∧
    ∃ c oE oN oA RE RN RA, e = .returned (.tuple #[.pointer (some ⟨c, 0, none⟩), .nilIface]) ∧ ROut w' c oE oN oA RE RN RA ∧ Made (EntsOf V fuel B D (· ∈ S)) RE ∧ Made (EnumsOf B D (· ∈ S)) RN ∧ ActsAre B D (· ∈ S) V fuel RA ∧ ¬ BadMem RA ∧
    (∀ n ∈ B.an, ∃ x, resAct V fuel ⟨#[]⟩ n (B.AA n) = some (some x)) ∧ ∀ s ∈ S, ∀ n ∈ (D s).an, ∃ x, resAct V fuel s n ((D s).AA n) = some (some x))

/-- The second loop: the namespaces that have been met are resolved. -/
structure Mk (wb wr : World) (a r : Nat) (MR2 : Nat → Prop) (ms : Option Nat) (ls left : List (Str × Value)) (V : Env) (fuel : Nat) (B : SpD) (D : Str → SpD) (RE : List (Str × REnt)) (RN : List (Str × (Str × List Str))) (RA : List (Uid × RAct)) : Prop where
  it : KIter Value.string wr ms r ls left
  keep : Keep MR2 wb wr
  o0 : ∃ l0, KMap Value.string wr a l0
  ents : ∃ lv, KMap Value.string wr (a + 1) lv ∧ MapRel (REntIs wr MR2) RE lv
  enums : ∃ lv, KMap Value.string wr (a + 1 + 1) lv ∧ MapRel (REnumIs wr MR2) RN lv
  acts : ∃ lv, KMap encU wr (a + 1 + 1 + 1) lv ∧ MapRel (RActIs wr MR2) RA lv
  madeE : Made (EntsOf V fuel B D (Met ls left)) RE
  madeN : Made (EnumsOf B D (Met ls left)) RN
  madeA : Made (ActsOf V fuel B D (Met ls left)) RA
  ok : ∀ s, Met ls left s → ∀ n ∈ (D s).en, ∃ x, resEnt V fuel s n ((D s).AE n) = some (some x)
  okA : ∀ s, Met ls left s → ∀ n ∈ (D s).an, ∃ x, resAct V fuel s n ((D s).AA n) = some (some x)

/-- The first loop: the namespaces that have been met are registered. -/
structure Reg (w wr : World) (ms : Option Nat) (r : Nat) (ls left : List (Str × Value)) (B : SpD) (D : Str → SpD) (b mE mN mC : Nat) (V : Env) : Prop where
  it : KIter Value.string wr ms r ls left
  keep : Keep (fun i => w.heap.size ≤ i) w wr
  rs : RS wr (· = r) b mE mN mC V
  env : EnvIs B D (Met ls left) V
  nodup : ∀ s, Met ls left s → ¬ dupIn (D s)

abbrev W1 (w : World) : World := (((w.alloc (.map #[] 0)).alloc (.map #[] 0)).alloc (.map #[] 0)).alloc (.cells #[.map (some w.heap.size), .map (some (w.heap.size + 1)), .map (some (w.heap.size + 1 + 1))] 209)
theorem rs_made (w : World) : RS (W1 w) NoB (w.heap.size + 1 + 1 + 1) w.heap.size (w.heap.size + 1) (w.heap.size + 1 + 1) ⟨[], [], []⟩ := by
  have hE : KMap Value.string (w.alloc (.map #[] 0)) w.heap.size [] := KMap.made w
  have hN : KMap Value.string ((w.alloc (.map #[] 0)).alloc (.map #[] 0)) (w.heap.size + 1) [] := by have := KMap.made (enc := Value.string) (w.alloc (.map #[] 0)); rwa [World.size_alloc] at this
  have hC : KMap Value.string (((w.alloc (.map #[] 0)).alloc (.map #[] 0)).alloc (.map #[] 0)) (w.heap.size + 1 + 1) [] := by have := KMap.made (enc := Value.string) ((w.alloc (.map #[] 0)).alloc (.map #[] 0)); rwa [World.size_alloc, World.size_alloc] at this
  have hb : (W1 w).heap[w.heap.size + 1 + 1 + 1]? = some (.cells #[.map (some w.heap.size), .map (some (w.heap.size + 1)), .map (some (w.heap.size + 1 + 1))] 209 (0, 0)) := by
    have h := (MapKept.heap_alloc (((w.alloc (.map #[] 0)).alloc (.map #[] 0)).alloc (.map #[] 0)) (.cells #[.map (some w.heap.size), .map (some (w.heap.size + 1)), .map (some (w.heap.size + 1 + 1))] 209)).1
    rw [World.size_alloc, World.size_alloc, World.size_alloc] at h
    exact h
  have k3 := Keep.alloc (((w.alloc (.map #[] 0)).alloc (.map #[] 0)).alloc (.map #[] 0)) (.cells #[.map (some w.heap.size), .map (some (w.heap.size + 1)), .map (some (w.heap.size + 1 + 1))] 209) NoB
  have k2 := (Keep.alloc ((w.alloc (.map #[] 0)).alloc (.map #[] 0)) (.map #[] 0) NoB).then k3
  have k1 := (Keep.alloc (w.alloc (.map #[] 0)) (.map #[] 0) NoB).then k2
  exact ⟨by rw [cell_cells hb]; rfl, by rw [cell_cells hb]; rfl, by rw [cell_cells hb]; rfl, NoB.not _, NoB.not _, NoB.not _, NoB.not _, ⟨by omega, by omega, by omega⟩, hE.keep k1 (NoB.not _), hN.keep k2 (NoB.not _), [], hC.keep k3 (NoB.not _), ⟨by simp, rfl, fun _ _ h => by simp at h⟩⟩
theorem keep_W1 (w : World) : Keep NoB w (W1 w) := (((Keep.alloc w _ NoB).then (Keep.alloc _ _ NoB)).then (Keep.alloc _ _ NoB)).then (Keep.alloc _ _ NoB)

abbrev W2 (w : World) : World := ((((w.alloc (.map #[] 0)).alloc (.map #[] 0)).alloc (.map #[] 0)).alloc (.map #[] 0)).alloc (.cells #[.map (some w.heap.size), .map (some (w.heap.size + 1)), .map (some (w.heap.size + 1 + 1)), .map (some (w.heap.size + 1 + 1 + 1))] 84)
structure OutV (w : World) (a : Nat) : Prop where
  c0 : w.cell? ⟨a + 1 + 1 + 1 + 1, 0, none⟩ = some (.map (some a))
  c1 : w.cell? ⟨a + 1 + 1 + 1 + 1, 1, none⟩ = some (.map (some (a + 1)))
  c2 : w.cell? ⟨a + 1 + 1 + 1 + 1, 2, none⟩ = some (.map (some (a + 1 + 1)))
  c3 : w.cell? ⟨a + 1 + 1 + 1 + 1, 3, none⟩ = some (.map (some (a + 1 + 1 + 1)))
theorem OutV.keep {w w' : World} {a : Nat} {M : Nat → Prop} (h : OutV w a) (hk : Keep M w w') (h4 : ¬ M (a + 1 + 1 + 1 + 1)) : OutV w' a :=
  ⟨hk.cell h.c0 h4, hk.cell h.c1 h4, hk.cell h.c2 h4, hk.cell h.c3 h4⟩
theorem out_made (w : World) : OutV (W2 w) w.heap.size ∧ KMap Value.string (W2 w) w.heap.size [] ∧ KMap Value.string (W2 w) (w.heap.size + 1) [] ∧ KMap Value.string (W2 w) (w.heap.size + 1 + 1) [] ∧ KMap encU (W2 w) (w.heap.size + 1 + 1 + 1) [] := by
  have hE : KMap Value.string (w.alloc (.map #[] 0)) w.heap.size [] := KMap.made w
  have hN : KMap Value.string ((w.alloc (.map #[] 0)).alloc (.map #[] 0)) (w.heap.size + 1) [] := by have := KMap.made (enc := Value.string) (w.alloc (.map #[] 0)); rwa [World.size_alloc] at this
  have hC : KMap Value.string (((w.alloc (.map #[] 0)).alloc (.map #[] 0)).alloc (.map #[] 0)) (w.heap.size + 1 + 1) [] := by have := KMap.made (enc := Value.string) ((w.alloc (.map #[] 0)).alloc (.map #[] 0)); rwa [World.size_alloc, World.size_alloc] at this
  have hD : KMap encU ((((w.alloc (.map #[] 0)).alloc (.map #[] 0)).alloc (.map #[] 0)).alloc (.map #[] 0)) (w.heap.size + 1 + 1 + 1) [] := by have := KMap.made (enc := encU) (((w.alloc (.map #[] 0)).alloc (.map #[] 0)).alloc (.map #[] 0)); rwa [World.size_alloc, World.size_alloc, World.size_alloc] at this
  have hb : (W2 w).heap[w.heap.size + 1 + 1 + 1 + 1]? = some (.cells #[.map (some w.heap.size), .map (some (w.heap.size + 1)), .map (some (w.heap.size + 1 + 1)), .map (some (w.heap.size + 1 + 1 + 1))] 84 (0, 0)) := by
    have h := (MapKept.heap_alloc ((((w.alloc (.map #[] 0)).alloc (.map #[] 0)).alloc (.map #[] 0)).alloc (.map #[] 0)) (.cells #[.map (some w.heap.size), .map (some (w.heap.size + 1)), .map (some (w.heap.size + 1 + 1)), .map (some (w.heap.size + 1 + 1 + 1))] 84)).1
    rw [World.size_alloc, World.size_alloc, World.size_alloc, World.size_alloc] at h
    exact h
  have k4 := Keep.alloc ((((w.alloc (.map #[] 0)).alloc (.map #[] 0)).alloc (.map #[] 0)).alloc (.map #[] 0)) (.cells #[.map (some w.heap.size), .map (some (w.heap.size + 1)), .map (some (w.heap.size + 1 + 1)), .map (some (w.heap.size + 1 + 1 + 1))] 84) NoB
  have k3 := (Keep.alloc (((w.alloc (.map #[] 0)).alloc (.map #[] 0)).alloc (.map #[] 0)) (.map #[] 0) NoB).then k4
  have k2 := (Keep.alloc ((w.alloc (.map #[] 0)).alloc (.map #[] 0)) (.map #[] 0) NoB).then k3
  have k1 := (Keep.alloc (w.alloc (.map #[] 0)) (.map #[] 0) NoB).then k2
  exact ⟨⟨by rw [cell_cells hb]; rfl, by rw [cell_cells hb]; rfl, by rw [cell_cells hb]; rfl, by rw [cell_cells hb]; rfl⟩, hE.keep k1 (NoB.not _), hN.keep k2 (NoB.not _), hC.keep k3 (NoB.not _), hD.keep k4 (NoB.not _)⟩
theorem keep_W2 (w : World) : Keep NoB w (W2 w) := ((((Keep.alloc w _ NoB).then (Keep.alloc _ _ NoB)).then (Keep.alloc _ _ NoB)).then (Keep.alloc _ _ NoB)).then (Keep.alloc _ _ NoB)
theorem size_W2 (w : World) : (W2 w).heap.size = w.heap.size + 1 + 1 + 1 + 1 + 1 := by simp

/-- What is asked of the common types: they are few, their names short, and hold no records. -/
structure ComOk (B : SpD) (D : Str → SpD) (S : List Str) : Prop where
  names : ∃ ns : List Str, ns.length ≤ 1000000 ∧ ∀ x t, ComOf B D (· ∈ S) x t → x ∈ ns ∧ x.size ≤ 1000000 ∧ Flat t
theorem ComOk.none {B : SpD} {D : Str → SpD} {S : List Str} (hB : B.cn = []) (hD : ∀ s ∈ S, (D s).cn = []) : ComOk B D S := by
  refine ⟨[], by simp, fun x t h => ?_⟩
  rcases h with ⟨h, _⟩ | ⟨s, hs, n, hn, _⟩
  · rw [hB] at h; simp at h
  · rw [hD s hs] at hn; simp at hn
theorem EnvIs.com {B : SpD} {D : Str → SpD} {S : List Str} {V : Env} (h : EnvIs B D (· ∈ S) V) (ok : ComOk B D S) (hn : (V.C.map (·.1)).Nodup) :
    V.C.length ≤ 1000000 ∧ (∀ n ∈ V.C.map (·.1), n.size ≤ 1000000) ∧ ∀ n t, (n, t) ∈ V.C → Flat t := by
  obtain ⟨ns, h1, h2⟩ := ok.names
  have key : ∀ n t, (n, t) ∈ V.C → n ∈ ns ∧ n.size ≤ 1000000 ∧ Flat t := fun n t hm => h2 n t (h.back n t (kget_mem hn hm))
  refine ⟨?_, fun n hm => ?_, fun n t hm => (key n t hm).2.2⟩
  · have := length_le_of_subset hn (b := ns) fun x hx => by
      obtain ⟨p, hp, rfl⟩ := List.mem_map.1 hx
      exact (key p.1 p.2 hp).1
    rw [List.length_map] at this; omega
  · obtain ⟨p, hp, rfl⟩ := List.mem_map.1 hm
    exact (key p.1 p.2 hp).2.1
/-- The blocks that the second half writes. -/
def MR3 (a : Nat) : Nat → Prop := fun i => i = a ∨ i = a + 1 ∨ i = a + 1 + 1 ∨ i = a + 1 + 1 + 1

set_option maxRecDepth 100000 in
set_option maxHeartbeats 8000000 in
theorem Resolve_c (w : World) (b0 : Nat) (me mn ma mc ms : Option Nat) (le ln la lc ls : List (Str × Value)) (B : SpD) (D : Str → SpD) (hS : SchIs w NoB b0 me mn ma mc ms le ln la lc ls B D) (fuel : Nat) (hcm : ComOk B D (ls.map (·.1)))
    (hf : ∀ V, EnvIs B D (· ∈ ls.map (·.1)) V → Acyc V → (∀ n ∈ B.en, ∃ x, resEnt V fuel ⟨#[]⟩ n (B.AE n) = some x) ∧ (∀ s ∈ ls.map (·.1), ∀ n ∈ (D s).en, ∃ x, resEnt V fuel s n ((D s).AE n) = some x) ∧
      (∀ n ∈ B.an, ∃ x, resAct V fuel ⟨#[]⟩ n (B.AA n) = some x) ∧ ∀ s ∈ ls.map (·.1), ∀ n ∈ (D s).an, ∃ x, resAct V fuel s n ((D s).AA n) = some x) :
    Calls Tryz.prog 33 #[.pointer (some ⟨b0, 0, none⟩)] w fun e w' => ResolveOut B D (ls.map (·.1)) fuel e w' ∧ Keep NoB w w' := by
  have hmm := @run_makeMap Tryz.prog
  have HA := Lib.hid (And.intro hS (And.intro hcm hf))
  clear hS hcm hf
  go_enter Tryz.func33, Tryz.ntmps33
  go_wp2_with fail
  clear hmm
  refine still_tail 13 (by kernel_rfl) (by kernel_rfl) (fun w2 hw2 => ?_)
  have kw2 : Keep NoB w w2 := (keep_W1 w).then (hw2 ▸ Keep.drew _ _)
  have hrs : RS w2 NoB (w.heap.size + 1 + 1 + 1) w.heap.size (w.heap.size + 1) (w.heap.size + 1 + 1) ⟨[], [], []⟩ := (rs_made w).keep (hw2 ▸ Keep.drew _ NoB) (fun _ _ h => h.elim) (fun _ _ h => h.elim)
  have hS2 := HA.out.1.keep (M' := NoB) kw2 (fun _ _ h => h.elim) (fun _ _ h => h.elim)
  have c0 := hS2.c0
  have c1 := hS2.c1
  have c3 := hS2.c3
  have HB := Lib.hid (And.intro kw2 (And.intro hrs hS2))
  clear hw2 kw2 hrs hS2
  simp only [List.take_succ_cons, List.take_zero, List.drop_succ_cons, List.drop_zero]
  repeat still_step
  refine wpStill_nil ?_
  clear c0 c1 c3
  have HC := Lib.hid (registerDecls_c w2 NoB (w.heap.size + 1 + 1 + 1) w.heap.size (w.heap.size + 1) (w.heap.size + 1 + 1) ⟨[], [], []⟩ HB.out.2.1 ⟨#[]⟩ (by decide) me mn mc le ln lc B.C0 HB.out.2.2.bare.m0 HB.out.2.2.bare.m1 HB.out.2.2.bare.m3
    (fun i e h => by have := HA.out.1.bare.m0.ltO i e; rcases h with h | h | h | h <;> first | exact h | omega) (fun i e h => by have := HA.out.1.bare.m1.ltO i e; rcases h with h | h | h | h <;> first | exact h | omega) (fun i e h => by have := HA.out.1.bare.m3.ltO i e; rcases h with h | h | h | h <;> first | exact h | omega)
    (fun p hp => (HB.out.2.2.bare.ent p hp).1) (fun p hp => (HB.out.2.2.bare.enum p hp).1) (fun p hp => (HB.out.2.2.bare.com p hp).1) (fun p hp => (HB.out.2.2.bare.enum p hp).2.1.enumV)
    (HA.out.1.bare.C0.mono fun _ _ _ _ q => q.keep (M' := RSD NoB w.heap.size (w.heap.size + 1) (w.heap.size + 1 + 1)) HB.out.1 (fun _ _ h => h.elim) (fun i hi h => by rcases h with h | h | h | h <;> first | exact h | omega)))
  go_wp2_with fail
  refine HC.out.mono ?_
  rintro e w3 ⟨hout, k3⟩
  have kw3 : Keep NoB w w3 := HB.out.1.trans k3 (fun _ _ h => h) (fun i hi h => by rcases h with h | h | h <;> omega)
  unfold RegOut at hout
  by_cases hdup : le.any (fun p => (kget ln p.1).isSome) = true
  · rw [if_pos hdup] at hout
    obtain ⟨a, rfl⟩ := hout
    have HX := Lib.hid (And.intro hdup kw3)
    clear hdup kw3 k3
    go_wp2_with fail
    go_ret2
    exact ⟨.inl ⟨⟨a, rfl⟩, .inl (.inl ((dup_any HA.out.1.bare).1 HX.out.1))⟩, HX.out.2⟩
  · rw [if_neg hdup] at hout
    obtain ⟨rfl, V1, hrs, henv⟩ := hout
    have hS3 := HA.out.1.keep (M' := NoB) kw3 (fun _ _ h => h.elim) (fun _ _ h => h.elim)
    have c4 := hS3.c4
    obtain ⟨o1, hrun, hit⟩ := hS3.m4.range (w := w3) Tryz.underlying125
    have HD := Lib.hid (And.intro (fun h => hdup ((dup_any HA.out.1.bare).2 h)) (And.intro kw3 (And.intro hrs (And.intro henv (And.intro hS3 hit)))))
    clear hdup kw3 k3 hrs henv hS3 hit
    go_wp2_with fail
    clear hrun c4
    go_loopg [] ls.length (fun k wr => ∃ left V, left.length = k ∧ Reg w wr ms w3.heap.size ls left B D (w.heap.size + 1 + 1 + 1) w.heap.size (w.heap.size + 1) (w.heap.size + 1 + 1) V)
    case atStart =>
      obtain ⟨hnd, kw3, hrs, henv, hS3, hit⟩ := HD.out
      refine ⟨ls, V1, rfl, hit, (kw3.then (Keep.alloc _ _ NoB)).mono fun _ _ h => h.elim, hrs.keep (Keep.alloc _ _ NoB) (fun _ _ h => h.elim) (fun i hi h => by omega), ?_, fun s h => (Met.start ls s h).elim⟩
      exact EnvAdd.env0 (D := D) (B := B) (by rw [← HA.out.1.bare.k0, ← HA.out.1.bare.k1]; exact henv) (fun s h => Met.start ls s h)
    case round =>
      obtain ⟨left, V, e1, hF⟩ := hrel
      have HF := Lib.hid (And.intro e1 hF)
      clear e1 hF
      rcases HF.out.2.it.next (P := Tryz.prog) (fun h => by cases h; rfl) 0 with ⟨rfl, hnext⟩ | ⟨p, lf, w', hp, hnext, hentry, hit', hk', hsz'⟩
      · clear HC
        have hms : Met ls [] = fun s => s ∈ ls.map (·.1) := funext fun s => propext (Met.over s)
        have hw3 := HD.out.2.1.size
        have henv : EnvIs B D (· ∈ ls.map (·.1)) V := by have := HF.out.2.env; rw [hms] at this; exact this
        have kwr := HF.out.2.keep
        have hSr := HA.out.1.keep (M' := NoB) kwr (fun i hi h => by omega) (fun _ _ h => h.elim)
        have HC := Lib.hid (checkShadowing_c wr NoB b0 me mn ma mc ms le ln la lc ls _ hSr.schemaV)
        have HE := Lib.hid (And.intro henv (And.intro kwr hms))
        clear henv kwr hSr hms
        go_wp2_with fail
        refine HC.out.mono ?_
        rintro e w5 ⟨hout, k5⟩
        rcases hout with ⟨⟨a, rfl⟩, hsh⟩ | ⟨rfl, hsh⟩
        · have HX := Lib.hid (And.intro hsh k5)
          clear hsh k5 hnext
          go_wp2_with fail
          go_ret2
          obtain ⟨p, hp, hh⟩ := HX.out.1
          refine ⟨.inl ⟨⟨a, rfl⟩, .inl (.inr (.inr ⟨p.1, List.mem_map.2 ⟨p, hp, rfl⟩, ?_⟩))⟩, (HE.out.2.1.then HX.out.2).mono fun i hi h => by omega⟩
          rw [← HA.out.1.bare.k0, ← HA.out.1.bare.k1, ← HA.out.1.bare.k2, ← HA.out.1.bare.k3]; exact hh
        · have hmm := @run_makeMap Tryz.prog
          have hrs5 := HF.out.2.rs.keep (M' := (· = w3.heap.size)) k5 (fun _ _ h => h.elim) (fun _ _ h => h)
          have hcn : (V.C.map (·.1)).Nodup := by obtain ⟨_, _, hq⟩ := hrs5.commons; exact hq.nodup
          obtain ⟨hcl, hcz, hcf⟩ := HE.out.1.com HA.out.2.1 hcn
          have HC2 := Lib.hid (detectCycles_c w5 _ _ _ _ _ V hrs5 hcl hcz (fun n t v hm hty => collectRefs_c (hcf n t hm) w5 _ v hty))
          clear hcn hcl hcz hcf
          have HX := Lib.hid (And.intro hsh (And.intro k5 hrs5))
          clear hsh k5 hrs5 hnext
          clear hmm
          go_wp2_with fail
          refine HC2.out.mono ?_
          rintro e w6 ⟨hcyc, k6⟩
          rcases hcyc.symm with ⟨⟨a, rfl⟩, hac⟩ | ⟨rfl, hac⟩
          · have HX2 := Lib.hid (And.intro hac k6)
            clear hac k6
            go_wp2_with fail
            go_ret2
            exact ⟨.inl ⟨⟨a, rfl⟩, .inr ⟨V, HE.out.1, .inl HX2.out.1⟩⟩, ((HE.out.2.1.then HX.out.2.1).then HX2.out.2).mono fun i hi h => by omega⟩
          have HAC := Lib.hid hac
          clear hac
          obtain ⟨a, ha⟩ : ∃ a, a = w6.heap.size := ⟨_, rfl⟩
          have kw7 : Keep (fun i => w.heap.size ≤ i) w (W2 w6) := ((HE.out.2.1.then HX.out.2.1).then k6).then (keep_W2 w6)
          have hle6 : w.heap.size ≤ a := by have := ((HE.out.2.1.then HX.out.2.1).then k6).size; omega
          obtain ⟨hov, hO0, hOE, hON, hOA⟩ := out_made w6
          rw [← ha] at hov hO0 hOE hON hOA
          have hsz7 := size_W2 w6
          rw [← ha] at hsz7
          have hr6 := (HX.out.2.2.keep (M' := (· = w3.heap.size)) k6 (fun _ _ h => h.elim) (fun _ _ h => h))
          have hrs7 : RS (W2 w6) (MR3 a) _ _ _ _ V := hr6.keep (keep_W2 w6) (fun _ _ h => h.elim) (fun i hi h => by rcases h with h | h | h <;> omega)
          have hS7 := HA.out.1.keep (M' := MR3 a) kw7 (fun i hi h => by omega) (fun i hi h => by rcases h with h | h | h <;> omega)
          have c0 := hS7.c0
          have hfu := (HA.out.2.2 V HE.out.1 HAC.out).1
          have HC3 := Lib.hid (resolveEntities_c (W2 w6) (MR3 a) _ _ _ _ (a + 1 + 1 + 1 + 1) (a + 1) V hrs7 fuel ⟨#[]⟩ (by decide) me le hS7.bare.m0 hS7.bare.a0 (.inr (.inl rfl)) (fun i h => by rcases h with h | h | h <;> omega) B.AE
            (fun p hp => ⟨(hS7.bare.ent p hp).1, (hS7.bare.ent p hp).2.1, (hS7.bare.ent p hp).2.2, hfu p.1 (hS7.bare.k0 ▸ List.mem_map.2 ⟨p, hp, rfl⟩)⟩) hov.c1 [] ⟨[], hOE, by simp, rfl, fun _ _ h => by simp at h⟩)
          have HG := Lib.hid (And.intro kw7 (And.intro hle6 (And.intro hov (And.intro hO0 (And.intro hON (And.intro hsz7 (And.intro hrs7 (And.intro hS7 hOA))))))))
          clear kw7 hle6 hov hO0 hOE hON hOA hsz7 hrs7 hS7 hr6 hfu k6
          have hmm := @run_makeMap Tryz.prog
          go_wp2_with fail
          clear hmm c0
          subst ha
          refine HC3.out.mono ?_
          rintro e w8 ⟨hout, k8⟩
          rcases hout with ⟨⟨x, rfl⟩, hbad⟩ | ⟨rfl, hok, RE, hadd, hRE⟩
          · have HY := Lib.hid (And.intro hbad k8)
            clear hbad k8
            go_wp2_with fail
            go_ret2
            obtain ⟨p, hp, hq⟩ := HY.out.1
            refine ⟨.inl ⟨⟨x, rfl⟩, .inr ⟨V, HE.out.1, .inr ⟨HAC.out, .inl (.inl ⟨p.1, HA.out.1.bare.k0 ▸ List.mem_map.2 ⟨p, hp, rfl⟩, hq⟩)⟩⟩⟩, (HG.out.1.trans HY.out.2 (M'' := fun i => w.heap.size ≤ i) (fun _ _ h => h) (fun i hi h => by have := HG.out.2.1; omega)).mono fun i hi h => by omega⟩
          · obtain ⟨kw7, hle6, hov, hO0, hON, hsz7, hrs7, hS7, hOA⟩ := HG.out
            obtain ⟨a, ha⟩ : ∃ a, a = w6.heap.size := ⟨_, rfl⟩
            rw [← ha] at hle6 hov hO0 hON hOA hsz7 hrs7 hS7 hRE k8 ⊢
            clear ha
            have hS8 := hS7.keep (M' := MR3 a) k8 (fun i hi h => .inr (.inl h)) (fun _ _ h => h)
            have hov8 := hov.keep k8 (by omega)
            have c1 := hS8.c1
            have hsz8 := k8.size
            have HC4 := Lib.hid (resolveEnums_c w8 (MR3 a) _ (a + 1 + 1 + 1 + 1) (a + 1 + 1) (.pointer (some ⟨w.heap.size + 1 + 1 + 1, 0, none⟩)) rfl ⟨#[]⟩ (by decide) mn ln hS8.bare.m1 hS8.bare.a1 (.inr (.inr (.inl rfl))) (fun i h => by rcases h with h | h | h <;> omega) B.EN hS8.bare.enum hov8.c2 [] ⟨[], hON.keep k8 (by omega), by simp, rfl, fun _ _ h => by simp at h⟩)
            have HH := Lib.hid (And.intro hok (And.intro hadd (And.intro hRE (And.intro k8 (And.intro kw7 (And.intro hle6 (And.intro (hO0.keep k8 (by omega)) (And.intro hsz7 (And.intro (hrs7.keep (M' := MR3 a) k8 (fun i hi h => .inr (.inl h)) (fun _ _ h => h)) (And.intro hS8 (And.intro hov8 (hOA.keep k8 (by omega)))))))))))))
            clear hok hadd hRE k8 kw7 hle6 hov hO0 hON hOA hsz7 hrs7 hS7 hS8 hov8 hsz8 HG HC3 HC2 HC
            go_wp2_with fail
            clear c1
            refine HC4.out.mono ?_
            rintro e w9 ⟨rfl, k9, RN, hadd2, hRN⟩
            have hS9 := HH.out.2.2.2.2.2.2.2.2.2.1.keep (M' := MR3 a) k9 (fun i hi h => .inr (.inr (.inl h))) (fun _ _ h => h)
            have hrs9 := HH.out.2.2.2.2.2.2.2.2.1.keep (M' := MR3 a) k9 (fun i hi h => .inr (.inr (.inl h))) (fun _ _ h => h)
            have hov9 := HH.out.2.2.2.2.2.2.2.2.2.2.1.keep k9 (by omega)
            have hOA9 := HH.out.2.2.2.2.2.2.2.2.2.2.2.keep k9 (by omega)
            have hfuA := (HA.out.2.2 V HE.out.1 HAC.out).2.2.1
            have hs9 : ∀ i, MR3 a i → i < w9.heap.size := fun i h => by
              have h1 := k9.size
              have h2 := HH.out.2.2.2.1.size
              have h3 := HH.out.2.2.2.2.2.2.2.1
              rcases h with h | h | h | h <;> omega
            have c2 := hS9.c2
            have HC5 := Lib.hid (resolveActions_c w9 (MR3 a) _ _ _ _ (a + 1 + 1 + 1 + 1) (a + 1 + 1 + 1) V hrs9 fuel ⟨#[]⟩ (by decide) ma la hS9.bare.m2 hS9.bare.a2 (.inr (.inr (.inr rfl))) hs9 B.AA
              (fun p hp => ⟨(hS9.bare.act p hp).1, (hS9.bare.act p hp).2, hfuA p.1 (hS9.bare.k2 ▸ List.mem_map.2 ⟨p, hp, rfl⟩)⟩) hov9.c3 [] ⟨[], hOA9, by simp, rfl, fun _ _ h => by simp at h⟩)
            have HI := Lib.hid (And.intro k9 (And.intro hadd2 (And.intro hRN (And.intro hS9 (And.intro hrs9 hov9)))))
            clear k9 hadd2 hRN hS9 hrs9 hov9 hOA9 hfuA hs9 HC4
            go_wp2_with fail
            clear c2
            refine HC5.out.mono ?_
            rintro e w10 ⟨hout, k10⟩
            rcases hout with ⟨⟨x, rfl⟩, hbad⟩ | ⟨rfl, hokA, RA, haddA, hRA⟩
            · have HY := Lib.hid (And.intro hbad k10)
              clear hbad k10
              go_wp2_with fail
              go_ret2
              obtain ⟨p, hp, hq⟩ := HY.out.1
              obtain ⟨k9, hadd2, hRN, hS9, hrs9, hov9⟩ := HI.out
              obtain ⟨hok, hadd, hRE, k8, kw7, hle6, hO0, hsz7, hrs8, hS8, hov8, hOA8⟩ := HH.out
              refine ⟨.inl ⟨⟨x, rfl⟩, .inr ⟨V, HE.out.1, .inr ⟨HAC.out, .inl (.inr (.inr (.inl ⟨p.1, HA.out.1.bare.k2 ▸ List.mem_map.2 ⟨p, hp, rfl⟩, hq⟩)))⟩⟩⟩, (((kw7.trans k8 (M'' := fun i => w.heap.size ≤ i) (fun _ _ h => h) (fun i hi h => by omega)).trans k9 (M'' := fun i => w.heap.size ≤ i) (fun _ _ h => h) (fun i hi h => by omega)).trans HY.out.2 (M'' := fun i => w.heap.size ≤ i) (fun _ _ h => h) (fun i hi h => by omega)).mono fun i hi h => by omega⟩
            obtain ⟨k9, hadd2, hRN, hS9, hrs9, hov9⟩ := HI.out
            obtain ⟨hok, hadd, hRE, k8, kw7, hle6, hO0, hsz7, hrs8, hS8, hov8, hOA8⟩ := HH.out
            have hS10 := hS9.keep (M' := MR3 a) k10 (fun i hi h => .inr (.inr (.inr h))) (fun _ _ h => h)
            have c4 := hS10.c4
            obtain ⟨o2, hrun, hit⟩ := hS10.m4.range (w := w10) Tryz.underlying125
            obtain ⟨r, hr⟩ : ∃ r, r = w10.heap.size := ⟨_, rfl⟩
            rw [← hr] at hrun hit
            obtain ⟨MR2, hMR⟩ : ∃ MR2 : Nat → Prop, ∀ i, MR2 i ↔ (MR3 a i ∨ i = r) := ⟨_, fun _ => Iff.rfl⟩
            have hra : a + 1 + 1 + 1 + 1 + 1 ≤ r := by have := k8.size; have := k9.size; have := k10.size; omega
            have kb := Keep.alloc w10 o2 NoB
            have hnew : ∀ i, i < w10.heap.size → MR2 i → MR3 a i := fun i hi h => ((hMR i).1 h).elim id (fun e => by omega)
            have hSb := hS10.keep (M' := MR2) kb (fun _ _ h => h.elim) hnew
            have hrsb : RS (w10.alloc o2) MR2 _ _ _ _ V := (hrs9.keep (M' := MR3 a) k10 (fun i hi h => .inr (.inr (.inr h))) (fun _ _ h => h)).keep kb (fun _ _ h => h.elim) hnew
            have hovb := (hov9.keep k10 (by omega)).keep kb (NoB.not _)
            have kwb : Keep (fun i => w.heap.size ≤ i) w (w10.alloc o2) := (((kw7.trans k8 (M'' := fun i => w.heap.size ≤ i) (fun _ _ h => h) (fun i hi h => by omega)).trans k9 (M'' := fun i => w.heap.size ≤ i) (fun _ _ h => h) (fun i hi h => by omega)).trans k10 (M'' := fun i => w.heap.size ≤ i) (fun _ _ h => h) (fun i hi h => by omega)).then kb
            have hMk : Mk (w10.alloc o2) (w10.alloc o2) a r MR2 ms ls ls V fuel B D RE RN RA := by
              obtain ⟨lvE, h1, h2⟩ := hRE
              obtain ⟨lvN, h3, h4⟩ := hRN
              obtain ⟨lvA, h5, h6⟩ := hRA
              refine ⟨hit, Keep.refl _ _, ⟨_, ((hO0.keep k9 (by omega)).keep k10 (by omega)).keep kb (NoB.not _)⟩,
                ⟨lvE, ((h1.keep k9 (by omega)).keep k10 (by omega)).keep kb (NoB.not _), h2.mono fun _ _ _ _ q => REntIs.keep.k kb (fun _ _ h => h.elim) hnew (REntIs.keep.k (M' := MR3 a) k10 (fun i hi h => .inr (.inr (.inr h))) (fun _ _ h => h) (REntIs.keep.k (M' := MR3 a) k9 (fun i hi h => .inr (.inr (.inl h))) (fun _ _ h => h) q))⟩,
                ⟨lvN, (h3.keep k10 (by omega)).keep kb (NoB.not _), h4.mono fun _ _ _ _ q => REnumIs.keep.k kb (fun _ _ h => h.elim) hnew (REnumIs.keep.k (M' := MR3 a) k10 (fun i hi h => .inr (.inr (.inr h))) (fun _ _ h => h) q)⟩,
                ⟨lvA, h5.keep kb (NoB.not _), h6.mono fun _ _ _ _ q => RActIs.keep.k kb (fun _ _ h => h.elim) hnew q⟩,
                (Made.nil (P := fun _ _ => False) (fun _ _ h => h)).add hadd (fun x y => ?_), (Made.nil (P := fun _ _ => False) (fun _ _ h => h)).add hadd2 (fun x y => ?_), (Made.nil (P := fun _ _ => False) (fun _ _ h => h)).add haddA (fun x y => ?_), fun s h => (Met.start ls s h).elim, fun s h => (Met.start ls s h).elim⟩
              · rw [HA.out.1.bare.k0]
                exact ⟨fun h => h.elim .inr fun ⟨s, h, _⟩ => (Met.start ls s h).elim, fun h => h.elim False.elim .inl⟩
              · rw [HA.out.1.bare.k1]
                exact ⟨fun h => h.elim .inr fun ⟨s, h, _⟩ => (Met.start ls s h).elim, fun h => h.elim False.elim .inl⟩
              · rw [HA.out.1.bare.k2]
                exact ⟨fun h => h.elim .inr fun ⟨s, h, _⟩ => (Met.start ls s h).elim, fun h => h.elim False.elim .inl⟩
            have hokBA : ∀ n ∈ B.an, ∃ x, resAct V fuel ⟨#[]⟩ n (B.AA n) = some (some x) := fun n hn => by
              rw [← HA.out.1.bare.k2] at hn
              obtain ⟨p, hp, rfl⟩ := List.mem_map.1 hn
              exact hokA p hp
            have hokB : ∀ n ∈ B.en, ∃ x, resEnt V fuel ⟨#[]⟩ n (B.AE n) = some (some x) := fun n hn => by
              rw [← HA.out.1.bare.k0] at hn
              obtain ⟨p, hp, rfl⟩ := List.mem_map.1 hn
              exact hok p hp
            have HM := Lib.hid (And.intro hSb (And.intro hrsb (And.intro hovb (And.intro kwb (And.intro hokB (And.intro hra (And.intro hle6 (And.intro hMR (And.intro hMk hokBA)))))))))
            obtain ⟨wb, hwb⟩ : ∃ wb, wb = w10.alloc o2 := ⟨_, rfl⟩
            rw [← hwb] at hrun HM
            clear k8 k9 k10 kb kw7 hle6 hO0 hsz7 hrs8 hS8 hov8 hOA8 hrs9 hov9 hok hadd hRE hadd2 hRN hokA haddA hRA hokBA hS9 hS10 hit hra hnew hSb hrsb hovb kwb hMk hokB hMR HI HH HC5 hwb hr
            go_wp2_with fail
            clear c4 hrun
            go_loopg [] ls.length (fun k wr => ∃ left RE RN RA, left.length = k ∧ Mk wb wr a r MR2 ms ls left V fuel B D RE RN RA)
            case atStart => exact ⟨ls, RE, RN, RA, rfl, HM.out.2.2.2.2.2.2.2.2.1⟩
            case round =>
              obtain ⟨left, RE, RN, RA, e1, hF⟩ := hrel
              have HL := Lib.hid (And.intro e1 hF)
              clear e1 hF
              obtain ⟨hSb, hrsb, hovb, kwb, hokB, hra, hle6, hMR, _⟩ := HM.out
              rcases HL.out.2.it.next (P := Tryz.prog) (fun h => by cases h; rfl) 0 with ⟨rfl, hnext⟩ | ⟨p, lf, w', hp, hnext, hentry, hit', hk', hsz'⟩
              · have hovr := hovb.keep HL.out.2.keep (fun h => ((hMR _).1 h).elim (fun h => by rcases h with h | h | h <;> omega) (fun h => by omega))
                obtain ⟨lvA, hlA, hmA⟩ := HL.out.2.acts
                have HC9 := Lib.hid (validate_c wr (.pointer (some ⟨w.heap.size + 1 + 1 + 1, 0, none⟩)) _ _ RA lvA hovr.c3 hlA (hmA.mono fun _ _ _ _ q => RActIs.keep.k (Keep.refl NoB wr) (fun _ _ h => h.elim) (fun _ _ h => h.elim) q))
                have HN := Lib.hid (And.intro hovr (And.intro hlA hmA))
                clear hovr hSb hrsb hovb kwb hokB hra hle6 hMR hlA hmA
                go_wp2_with fail
                refine HC9.out.mono ?_
                rintro e w11 ⟨hout, k11⟩
                rcases hout with ⟨⟨x, rfl⟩, hbad⟩ | ⟨rfl, hgu, hga⟩
                · have HX11 := Lib.hid (And.intro hbad k11)
                  clear hnext hbad k11
                  go_wp2_with fail
                  go_ret2
                  obtain ⟨hSb, hrsb, hovb, kwb, hokB, hra, hle6, hMR, _⟩ := HM.out
                  have hms := HE.out.2.2
                  have hmA2 := HL.out.2.madeA
                  rw [hms] at hmA2
                  exact ⟨.inl ⟨⟨x, rfl⟩, .inr ⟨V, HE.out.1, .inr ⟨HAC.out, .inr ⟨RA, ⟨hmA2, HN.out.2.2.nodup⟩, HX11.out.1⟩⟩⟩⟩, ((kwb.trans HL.out.2.keep (M'' := fun i => w.heap.size ≤ i) (fun _ _ h => h) (fun i hi h => ((hMR _).1 h).elim (fun h => by rcases h with h | h | h <;> omega) (fun h => by omega))).then HX11.out.2).mono fun i hi h => by omega⟩
                · have HK11 := Lib.hid (And.intro k11 (And.intro hgu hga))
                  clear hnext k11 hgu hga
                  go_wp2_with fail
                  go_ret2
                  obtain ⟨hSb, hrsb, hovb, kwb, hokB, hra, hle6, hMR, _, hokBA⟩ := HM.out
                  obtain ⟨k11, hgu, hga⟩ := HK11.out
                  have hms := HE.out.2.2
                  have hmm : ∀ s, Met ls [] s ↔ s ∈ ls.map (·.1) := fun s => Met.over s
                  have hov := HN.out.1.keep k11 (NoB.not _)
                  refine ⟨.inr ⟨?_, V, HE.out.1, HAC.out, hokB, fun s hs => HL.out.2.ok s ((hmm s).2 hs), a + 1 + 1 + 1 + 1, a + 1, a + 1 + 1, a + 1 + 1 + 1, RE, RN, RA, rfl, ⟨hov.c1, hov.c2, hov.c3, ?_, ?_, ?_⟩, ?_, ?_, ⟨?_, HN.out.2.2.nodup⟩, fun h => h.elim hgu fun ⟨x, hx⟩ => hx (hga x), hokBA, fun s hs => HL.out.2.okA s ((hmm s).2 hs)⟩, ?_⟩
                  · rintro (h | ⟨s, hs, h⟩ | ⟨s, hs, h⟩)
                    · exact HD.out.1 h
                    · exact HF.out.2.nodup s ((hmm s).2 hs) h
                    · obtain ⟨p, hp, rfl⟩ := List.mem_map.1 hs
                      refine HX.out.1 p hp ?_
                      rw [HA.out.1.bare.k0, HA.out.1.bare.k1, HA.out.1.bare.k2, HA.out.1.bare.k3]; exact h
                  · obtain ⟨lv, h1, h2⟩ := HL.out.2.ents
                    exact ⟨lv, h1.keep k11 (NoB.not _), h2.mono fun _ _ _ _ q => REntIs.keep.k k11 (fun _ _ h => h.elim) (fun _ _ h => h.elim) q⟩
                  · obtain ⟨lv, h1, h2⟩ := HL.out.2.enums
                    exact ⟨lv, h1.keep k11 (NoB.not _), h2.mono fun _ _ _ _ q => REnumIs.keep.k k11 (fun _ _ h => h.elim) (fun _ _ h => h.elim) q⟩
                  · exact ⟨lvA, HN.out.2.1.keep k11 (NoB.not _), HN.out.2.2.mono fun _ _ _ _ q => RActIs.keep.k k11 (fun _ _ h => h.elim) (fun _ _ h => h.elim) q⟩
                  · have := HL.out.2.madeE; rw [hms] at this; exact this
                  · have := HL.out.2.madeN; rw [hms] at this; exact this
                  · have := HL.out.2.madeA; rw [hms] at this; exact this
                  · exact ((kwb.trans HL.out.2.keep (M'' := fun i => w.heap.size ≤ i) (fun _ _ h => h) (fun i hi h => ((hMR _).1 h).elim (fun h => by rcases h with h | h | h <;> omega) (fun h => by omega))).then k11).mono fun i hi h => by omega
              · obtain ⟨pk, pv⟩ := p
                have hpm : (pk, pv) ∈ ls := HL.out.2.it.sub.subset (hp.mem_iff.2 (.head _))
                have hrM : MR2 r := (hMR r).2 (.inr rfl)
                have hM0 : MR2 a := (hMR a).2 (.inl (.inl rfl))
                have hM1 : MR2 (a + 1) := (hMR _).2 (.inl (.inr (.inl rfl)))
                have hM2 : MR2 (a + 1 + 1) := (hMR _).2 (.inl (.inr (.inr (.inl rfl))))
                have hMle : ∀ i, MR2 i → i ≤ r := fun i h => ((hMR _).1 h).elim (fun h => by rcases h with h | h | h <;> omega) (fun h => by omega)
                have hM3 : MR2 (a + 1 + 1 + 1) := (hMR _).2 (.inl (.inr (.inr (.inr rfl))))
                have hM4 : ¬ MR2 (a + 1 + 1 + 1 + 1) := fun h => ((hMR _).1 h).elim (fun h => by rcases h with h | h | h <;> omega) (fun h => by omega)
                have hrlt := HL.out.2.it.lt
                have kr : Keep MR2 wr w' := hk'.mono fun i _ e => e ▸ hrM
                have k' : Keep MR2 wb w' := HL.out.2.keep.trans kr (fun _ _ h => h) (fun _ _ h => h)
                have hS' := hSb.keep (M' := MR2) k' (fun _ _ h => h) (fun _ _ h => h)
                obtain ⟨hps, an, me', mn', ma', mc', le', ln', la', lc', hpe, hsp'⟩ := hS'.spaces _ hpm
                obtain rfl : pv = .agg #[.map an, .map me', .map mn', .map ma', .map mc'] := hpe
                have k4 := Keep.alloc w' (.cells #[.map an, .map me', .map mn', .map ma', .map mc'] 138) NoB
                have hb4 := (MapKept.heap_alloc w' (.cells #[.map an, .map me', .map mn', .map ma', .map mc'] 138)).1
                have HP := Lib.hid (And.intro hpm (And.intro hp (And.intro hit' (And.intro hk' (And.intro hsz' (And.intro k' (And.intro kr (And.intro k4 (And.intro hb4 (And.intro hps hsp'))))))))))
                have HM3 := Lib.hid (And.intro hrM (And.intro hM0 (And.intro hM1 (And.intro hM2 (And.intro hMle (And.intro hM3 (And.intro hM4 hrlt)))))))
                dsimp only at hnext hentry
                clear hpm hp hit' hk' hsz' k' kr k4 hb4 hsp' hS' hrM hM0 hM1 hM2 hMle hM3 hM4 hrlt hSb hrsb hovb kwb hokB hra hle6 hMR
                go_wp2_with fail
                clear hnext hentry
                refine still_tail 9 (by kernel_rfl) (by kernel_rfl) (fun w5 hw5 => ?_)
                obtain ⟨hSb, hrsb, hovb, kwb, hokB, hra, hle6, hMR, _⟩ := HM.out
                obtain ⟨hpm, hp, hit', hk', hsz', k', kr, k4, hb4, _, hsp'⟩ := HP.out
                obtain ⟨hrM, hM0, hM1, hM2, hMle, hM3, hM4, hrlt⟩ := HM3.out
                have k5 : Keep NoB w' w5 := k4.then (hw5 ▸ Keep.drew _ _)
                have hb5 := (hw5 ▸ Keep.drew _ NoB : Keep NoB _ w5).heap hb4 (NoB.not _)
                obtain ⟨l0, h0⟩ := HL.out.2.o0
                have har : a ≠ r := by omega
                obtain ⟨ob, hupd, hm0⟩ := ((h0.keep hk' har).keep k5 (NoB.not _)).update (strKey Tryz.underlying141) Tryz.underlying80 pk (.agg #[.string pk, .map an])
                have g0 := ((hovb.keep k' hM4).keep k5 (NoB.not _)).c0
                have e0 : w5.cell? ⟨w'.heap.size, 0, none⟩ = some (.map an) := by rw [cell_cells hb5]; rfl
                have HQ := Lib.hid (And.intro k5 (And.intro hb5 hm0))
                clear k5 hb5 hm0 h0 har hw5 hpm hp hit' hk' hsz' k' kr k4 hb4 hsp' hrM hM0 hM1 hM2 hMle hM3 hM4 hrlt hSb hrsb hovb kwb hokB hra hle6 hMR
                simp only [List.take_succ_cons, List.take_zero, List.drop_succ_cons, List.drop_zero]
                repeat still_step
                refine wpStill_nil ?_
                clear g0 e0
                obtain ⟨w6, hw6⟩ : ∃ w6, w6 = ChangeMaps.setBlock w5 a ob := ⟨_, rfl⟩
                rw [← hw6] at hupd HQ
                obtain ⟨hSb, hrsb, hovb, kwb, hokB, hra, hle6, hMR, _⟩ := HM.out
                obtain ⟨hpm, hp, hit', hk', hsz', k', kr, k4, hb4, _, hsp'⟩ := HP.out
                obtain ⟨hrM, hM0, hM1, hM2, hMle, hM3, hM4, hrlt⟩ := HM3.out
                have k56 : Keep (· = a) w5 w6 := hw6 ▸ Keep.setBlock _ _ _ (fun _ => rfl)
                have k6 : Keep (· = a) w' w6 := HQ.out.1.trans k56 (fun _ _ h => h.elim) (fun _ _ h => h)
                have k6M : Keep MR2 w' w6 := k6.mono fun i _ e => e ▸ hM0
                have hb6 := k56.heap HQ.out.2.1 (by omega)
                have e1 : w6.cell? ⟨w'.heap.size, 1, none⟩ = some (.map me') := by rw [cell_cells hb6]; rfl
                have hsp6 := hsp'.keep (M' := MR2) k6M (fun _ _ h => h) (fun _ _ h => h)
                have hrs6 := hrsb.keep (M' := MR2) (k'.trans k6M (fun _ _ h => h) (fun _ _ h => h)) (fun _ _ h => h) (fun _ _ h => h)
                have hov6 := (hovb.keep k' hM4).keep k6M hM4
                have hs6 : ∀ i, MR2 i → i < w6.heap.size := fun i h => by have := hMle i h; have := k6.size; omega
                have hfu := (HA.out.2.2 V HE.out.1 HAC.out).2.1 pk (List.mem_map.2 ⟨_, hpm, rfl⟩)
                obtain ⟨lvE, hE1, hE2⟩ := HL.out.2.ents
                have hE : ∃ lv, KMap Value.string w6 (a + 1) lv ∧ MapRel (REntIs w6 MR2) RE lv := ⟨lvE, (hE1.keep hk' (by omega)).keep k6 (by omega), hE2.mono fun _ _ _ _ q => REntIs.keep.k k6M (fun _ _ h => h) (fun _ _ h => h) (REntIs.keep.k (M' := MR2) kr (fun _ _ h => h) (fun _ _ h => h) q)⟩
                obtain ⟨lvN, hN1, hN2⟩ := HL.out.2.enums
                have hN : KMap Value.string w6 (a + 1 + 1) lvN ∧ MapRel (REnumIs w6 MR2) RN lvN := ⟨(hN1.keep hk' (by omega)).keep k6 (by omega), hN2.mono fun _ _ _ _ q => REnumIs.keep.k k6M (fun _ _ h => h) (fun _ _ h => h) (REnumIs.keep.k (M' := MR2) kr (fun _ _ h => h) (fun _ _ h => h) q)⟩
                obtain ⟨lvA, hA1, hA2⟩ := HL.out.2.acts
                have hA6 : KMap encU w6 (a + 1 + 1 + 1) lvA ∧ MapRel (RActIs w6 MR2) RA lvA := ⟨(hA1.keep hk' (by omega)).keep k6 (by omega), hA2.mono fun _ _ _ _ q => RActIs.keep.k k6M (fun _ _ h => h) (fun _ _ h => h) (RActIs.keep.k (M' := MR2) kr (fun _ _ h => h) (fun _ _ h => h) q)⟩
                have HC6 := Lib.hid (resolveEntities_c w6 MR2 _ _ _ _ (a + 1 + 1 + 1 + 1) (a + 1) V hrs6 fuel pk hps me' le' hsp6.m0 hsp6.a0 hM1 hs6 (D pk).AE
                  (fun p hp => ⟨(hsp6.ent p hp).1, (hsp6.ent p hp).2.1, (hsp6.ent p hp).2.2, hfu p.1 (hsp6.k0 ▸ List.mem_map.2 ⟨p, hp, rfl⟩)⟩) hov6.c1 RE hE)
                have HR := Lib.hid (And.intro k6 (And.intro k6M (And.intro hb6 (And.intro hsp6 (And.intro hrs6 (And.intro hov6 (And.intro hN hA6)))))))
                clear k56 k6 k6M hb6 hsp6 hrs6 hov6 hs6 hfu hE1 hE2 hE hN1 hN2 hN hA1 hA2 hA6 hpm hp hit' hk' hsz' k' kr k4 hb4 hsp' hrM hM0 hM1 hM2 hMle hM3 hM4 hrlt hSb hrsb hovb kwb hokB hra hle6 hMR hw6
                go_wp2_with fail
                clear hupd e1
                refine HC6.out.mono ?_
                rintro e w7 ⟨hout, k7⟩
                rcases hout with ⟨⟨x, rfl⟩, hbad⟩ | ⟨rfl, hok, RE', hadd, hRE⟩
                · have HY := Lib.hid (And.intro hbad k7)
                  clear hbad k7
                  go_wp2_with fail
                  go_ret2
                  obtain ⟨hSb, hrsb, hovb, kwb, hokB, hra, hle6, hMR, _⟩ := HM.out
                  obtain ⟨hpm, hp, hit', hk', hsz', k', kr, k4, hb4, _, hsp'⟩ := HP.out
                  obtain ⟨hrM, hM0, hM1, hM2, hMle, hM3, hM4, hrlt⟩ := HM3.out
                  obtain ⟨q, hq, hqe⟩ := HY.out.1
                  have hmw : ∀ i, MR2 i → w.heap.size ≤ i := fun i h => ((hMR _).1 h).elim (fun h => by rcases h with h | h | h <;> omega) (fun h => by omega)
                  refine ⟨.inl ⟨⟨x, rfl⟩, .inr ⟨V, HE.out.1, .inr ⟨HAC.out, .inl (.inr (.inl ⟨pk, List.mem_map.2 ⟨_, hpm, rfl⟩, q.1, hsp'.k0 ▸ List.mem_map.2 ⟨q, hq, rfl⟩, hqe⟩))⟩⟩⟩, ((kwb.trans (k'.trans HR.out.2.1 (M'' := MR2) (fun _ _ h => h) (fun _ _ h => h)) (M'' := fun i => w.heap.size ≤ i) (fun _ _ h => h) (fun i hi h => hmw i h)).trans HY.out.2 (M'' := fun i => w.heap.size ≤ i) (fun _ _ h => h) (fun i hi h => by omega)).mono fun i hi h => by omega⟩
                · obtain ⟨k6, k6M, hb6, hsp6, hrs6, hov6, ⟨hN1, hN2⟩, hA1, hA2⟩ := HR.out
                  obtain ⟨hrM, hM0, hM1, hM2, hMle, hM3, hM4, hrlt⟩ := HM3.out
                  obtain ⟨hpm, hp, hit', hk', hsz', k', kr, k4, hb4, _, hsp'⟩ := HP.out
                  obtain ⟨hSb, hrsb, hovb, kwb, hokB, hra, hle6, hMR, _⟩ := HM.out
                  have k7M : Keep MR2 w6 w7 := k7.mono fun i _ e => e ▸ hM1
                  have hb7 := k7.heap hb6 (by omega)
                  have e2 : w7.cell? ⟨w'.heap.size, 2, none⟩ = some (.map mn') := by rw [cell_cells hb7]; rfl
                  have hsp7 := hsp6.keep (M' := MR2) k7M (fun _ _ h => h) (fun _ _ h => h)
                  have hov7 := hov6.keep k7M hM4
                  have hs7 : ∀ i, MR2 i → i < w7.heap.size := fun i h => by have := hMle i h; have := k6.size; have := k7.size; omega
                  have hN7 : KMap Value.string w7 (a + 1 + 1) lvN ∧ MapRel (REnumIs w7 MR2) RN lvN := ⟨hN1.keep k7 (by omega), hN2.mono fun _ _ _ _ q => REnumIs.keep.k k7M (fun _ _ h => h) (fun _ _ h => h) q⟩
                  have hA7 : KMap encU w7 (a + 1 + 1 + 1) lvA ∧ MapRel (RActIs w7 MR2) RA lvA := ⟨hA1.keep k7 (by omega), hA2.mono fun _ _ _ _ q => RActIs.keep.k k7M (fun _ _ h => h) (fun _ _ h => h) q⟩
                  have hrs7 := hrs6.keep (M' := MR2) k7M (fun _ _ h => h) (fun _ _ h => h)
                  have HC7 := Lib.hid (resolveEnums_c w7 MR2 _ (a + 1 + 1 + 1 + 1) (a + 1 + 1) (.pointer (some ⟨w.heap.size + 1 + 1 + 1, 0, none⟩)) rfl pk hps mn' ln' hsp7.m1 hsp7.a1 hM2 hs7 (D pk).EN hsp7.enum hov7.c2 RN ⟨lvN, hN7⟩)
                  have HT := Lib.hid (And.intro hok (And.intro hadd (And.intro hRE (And.intro k7 (And.intro k7M (And.intro hb7 (And.intro hsp7 (And.intro hov7 (And.intro hA7 hrs7)))))))))
                  clear hok hadd hRE k7 k7M hb7 hsp7 hov7 hA7 hrs7 hs7 hN7 k6 k6M hb6 hsp6 hrs6 hov6 hN1 hN2 hA1 hA2 hrM hM0 hM1 hM2 hMle hM3 hM4 hrlt hpm hp hit' hk' hsz' k' kr k4 hb4 hsp' hSb hrsb hovb kwb hokB hra hle6 hMR
                  go_wp2_with fail
                  clear e2
                  refine HC7.out.mono ?_
                  rintro e w8 ⟨rfl, k8, RN', hadd2, hRN⟩
                  obtain ⟨hok, hadd, hRE, k7, k7M, hb7, hsp7, hov7, hA7, hrs7⟩ := HT.out
                  obtain ⟨hrM, hM0, hM1, hM2, hMle, hM3, hM4, hrlt⟩ := HM3.out
                  have k8M : Keep MR2 w7 w8 := k8.mono fun i _ e => e ▸ hM2
                  have hra := HM.out.2.2.2.2.2.1
                  have hsz' := HP.out.2.2.2.2.1
                  have hb8 := k8.heap hb7 (by omega)
                  have e3 : w8.cell? ⟨w'.heap.size, 3, none⟩ = some (.map ma') := by rw [cell_cells hb8]; rfl
                  have hsp8 := hsp7.keep (M' := MR2) k8M (fun _ _ h => h) (fun _ _ h => h)
                  have hs8 : ∀ i, MR2 i → i < w8.heap.size := fun i h => by have := hMle i h; have := HR.out.1.size; have := k7.size; have := k8.size; omega
                  have hov8 := hov7.keep k8M hM4
                  have hrs8 := hrs7.keep (M' := MR2) k8M (fun _ _ h => h) (fun _ _ h => h)
                  have hfu := (HA.out.2.2 V HE.out.1 HAC.out).2.2.2 pk (List.mem_map.2 ⟨_, HP.out.1, rfl⟩)
                  have hA8 : KMap encU w8 (a + 1 + 1 + 1) lvA ∧ MapRel (RActIs w8 MR2) RA lvA := ⟨hA7.1.keep k8 (by omega), hA7.2.mono fun _ _ _ _ q => RActIs.keep.k k8M (fun _ _ h => h) (fun _ _ h => h) q⟩
                  have HC8 := Lib.hid (resolveActions_c w8 MR2 _ _ _ _ (a + 1 + 1 + 1 + 1) (a + 1 + 1 + 1) V hrs8 fuel pk HP.out.2.2.2.2.2.2.2.2.2.1 ma' la' hsp8.m2 hsp8.a2 hM3 hs8 (D pk).AA
                    (fun p hp => ⟨(hsp8.act p hp).1, (hsp8.act p hp).2, hfu p.1 (hsp8.k2 ▸ List.mem_map.2 ⟨p, hp, rfl⟩)⟩) hov8.c3 RA ⟨lvA, hA8⟩)
                  have HU := Lib.hid (And.intro k8 (And.intro k8M (And.intro hadd2 (And.intro hRN hsp8))))
                  clear k8 k8M hb8 hsp8 hadd2 hRN hok hadd hRE k7 k7M hb7 hsp7 hov7 hrM hM0 hM1 hM2 hMle hM3 hM4 hrlt hra hsz' hs8 hov8 hrs8 hfu hA8 hA7 hrs7
                  go_wp2_with fail
                  clear e3
                  refine HC8.out.mono ?_
                  rintro e w9 ⟨hout, k9⟩
                  rcases hout with ⟨⟨x, rfl⟩, hbad⟩ | ⟨rfl, hokA, RA', haddA, hRA⟩
                  · have HY := Lib.hid (And.intro hbad k9)
                    clear hbad k9
                    go_wp2_with fail
                    go_ret2
                    obtain ⟨hSb, hrsb, hovb, kwb, hokB, hra, hle6, hMR, _⟩ := HM.out
                    obtain ⟨hpm, hp, hit', hk', hsz', k', kr, k4, hb4, hps, hsp'⟩ := HP.out
                    obtain ⟨hrM, hM0, hM1, hM2, hMle, hM3, hM4, hrlt⟩ := HM3.out
                    obtain ⟨q, hq, hqe⟩ := HY.out.1
                    have hmw : ∀ i, MR2 i → w.heap.size ≤ i := fun i h => ((hMR _).1 h).elim (fun h => by rcases h with h | h | h <;> omega) (fun h => by omega)
                    refine ⟨.inl ⟨⟨x, rfl⟩, .inr ⟨V, HE.out.1, .inr ⟨HAC.out, .inl (.inr (.inr (.inr ⟨pk, List.mem_map.2 ⟨_, hpm, rfl⟩, q.1, hsp'.k2 ▸ List.mem_map.2 ⟨q, hq, rfl⟩, hqe⟩)))⟩⟩⟩, (((((kwb.trans k' (M'' := fun i => w.heap.size ≤ i) (fun _ _ h => h) (fun i hi h => hmw i h)).trans HR.out.2.1 (M'' := fun i => w.heap.size ≤ i) (fun _ _ h => h) (fun i hi h => hmw i h)).trans HT.out.2.2.2.1 (M'' := fun i => w.heap.size ≤ i) (fun _ _ h => h) (fun i hi h => by omega)).trans HU.out.1 (M'' := fun i => w.heap.size ≤ i) (fun _ _ h => h) (fun i hi h => by omega)).trans HY.out.2 (M'' := fun i => w.heap.size ≤ i) (fun _ _ h => h) (fun i hi h => by omega)).mono fun i hi h => by omega⟩
                  have HK9 := Lib.hid (And.intro k9 (And.intro hokA (And.intro haddA hRA)))
                  clear k9 hokA haddA hRA
                  go_wp2_with fail
                  go_roundg lf.length
                  case measure =>
                    have h1 := HP.out.2.1.length_eq
                    have h2 := HL.out.1
                    rw [List.length_cons] at h1; omega
                  case rel =>
                    obtain ⟨k9, hokA, haddA, hRA⟩ := HK9.out
                    obtain ⟨k8, k8M, hadd2, hRN, hsp8⟩ := HU.out
                    obtain ⟨hok, hadd, hRE, k7, k7M, hb7, hsp7, hov7, hA7, hrs7⟩ := HT.out
                    obtain ⟨k6, k6M, hb6, hsp6, hrs6, hov6, ⟨hN1, hN2⟩, hA1, hA2⟩ := HR.out
                    obtain ⟨hrM, hM0, hM1, hM2, hMle, hM3, hM4, hrlt⟩ := HM3.out
                    obtain ⟨hpm, hp, hit', hk', hsz', k', kr, k4, hb4, hps, hsp'⟩ := HP.out
                    obtain ⟨hSb, hrsb, hovb, kwb, hokB, hra, hle6, hMR, _⟩ := HM.out
                    have hst := Met.step hp HL.out.2.it.sub HL.out.2.it.map.nodup
                    have hms : ∀ i, ms = some i → ¬ MR2 i := hSb.a4
                    have k9M : Keep MR2 w8 w9 := k9.mono fun i _ e => e ▸ hM3
                    have k69 : Keep (MR3 a) w' w9 := ((k6.trans k7 (M'' := MR3 a) (fun _ _ h => .inl h) (fun _ _ h => .inr (.inl h))).trans k8 (M'' := MR3 a) (fun _ _ h => h) (fun _ _ h => .inr (.inr (.inl h)))).trans k9 (M'' := MR3 a) (fun _ _ h => h) (fun _ _ h => .inr (.inr (.inr h)))
                    have k69M : Keep MR2 w' w9 := k69.mono fun i _ h => (hMR i).2 (.inl h)
                    obtain ⟨lE, hE1, hE2⟩ := hRE
                    obtain ⟨lN, hN1', hN2'⟩ := hRN
                    refine ⟨lf, RE', RN', RA', rfl, hit'.keep k69 (fun i e h => hms i e ((hMR i).2 (.inl h))) (fun h => by rcases h with h | h | h <;> omega), k'.trans k69M (fun _ _ h => h) (fun _ _ h => h),
                      ⟨_, ((HQ.out.2.2.keep k7 (by omega)).keep k8 (by omega)).keep k9 (by omega)⟩,
                      ⟨lE, (hE1.keep k8 (by omega)).keep k9 (by omega), hE2.mono fun _ _ _ _ q => REntIs.keep.k k9M (fun _ _ h => h) (fun _ _ h => h) (REntIs.keep.k (M' := MR2) k8M (fun _ _ h => h) (fun _ _ h => h) q)⟩,
                      ⟨lN, hN1'.keep k9 (by omega), hN2'.mono fun _ _ _ _ q => REnumIs.keep.k k9M (fun _ _ h => h) (fun _ _ h => h) q⟩, hRA,
                      HL.out.2.madeE.add hadd (fun x y => ?_), HL.out.2.madeN.add hadd2 (fun x y => ?_), HL.out.2.madeA.add haddA (fun x y => ?_), fun s hs => ?_, fun s hs => ?_⟩
                    · rw [hsp'.k0]; exact or_step hst
                    · rw [hsp'.k1]; exact or_step hst
                    · rw [hsp'.k2]; exact or_step hst
                    · rcases (hst s).1 hs with e | hs
                      · rw [show s = pk from e]
                        intro n hn
                        have hn' : n ∈ (D pk).en := hn
                        rw [← hsp'.k0] at hn'
                        obtain ⟨q, hq, rfl⟩ := List.mem_map.1 hn'
                        exact hok q hq
                      · exact HL.out.2.ok s hs
                    · rcases (hst s).1 hs with e | hs
                      · rw [show s = pk from e]
                        intro n hn
                        have hn' : n ∈ (D pk).an := hn
                        rw [← hsp'.k2] at hn'
                        obtain ⟨q, hq, rfl⟩ := List.mem_map.1 hn'
                        exact hokA q hq
                      · exact HL.out.2.okA s hs
      · have hpm : p ∈ ls := HF.out.2.it.sub.subset (hp.mem_iff.2 (.head _))
        have hw3 := HD.out.2.1.size
        have kw' : Keep (fun i => w.heap.size ≤ i) w w' := HF.out.2.keep.trans hk' (fun _ _ h => h) (fun i hi h => by omega)
        obtain ⟨hps, an, me', mn', ma', mc', le', ln', la', lc', hpe, hsp0⟩ := HA.out.1.spaces p hpm
        have hsp := hsp0.keep (M' := NoB) kw' (fun i hi h => by omega) (fun _ _ h => h.elim)
        have hrs' := HF.out.2.rs.keep (M' := (· = w3.heap.size)) hk' (fun _ _ h => h) (fun _ _ h => h)
        obtain ⟨pk, pv⟩ := p
        obtain rfl : pv = .agg #[.map an, .map me', .map mn', .map ma', .map mc'] := hpe
        have hlt0 : ∀ i, (me' = some i ∨ mn' = some i ∨ mc' = some i) → i < w.heap.size := by
          rintro i (h | h | h)
          · exact hsp0.m0.ltO i h
          · exact hsp0.m1.ltO i h
          · exact hsp0.m3.ltO i h
        have k4 := Keep.alloc w' (.cells #[.map an, .map me', .map mn', .map ma', .map mc'] 138) NoB
        have hrs4 := hrs'.keep (M' := (· = w3.heap.size)) k4 (fun _ _ h => h.elim) (fun _ _ h => h)
        have hsp4 := hsp.keep (M' := NoB) k4 (fun _ _ h => h) (fun _ _ h => h)
        have hns : ∀ i, i < w.heap.size → ¬ RSD (· = w3.heap.size) w.heap.size (w.heap.size + 1) (w.heap.size + 1 + 1) i := fun i hi h => by rcases h with h | h | h | h <;> omega
        have HC := Lib.hid (registerDecls_c _ (· = w3.heap.size) (w.heap.size + 1 + 1 + 1) w.heap.size (w.heap.size + 1) (w.heap.size + 1 + 1) V hrs4 pk hps me' mn' mc' le' ln' lc' (D pk).C0 hsp4.m0 hsp4.m1 hsp4.m3
          (fun i e => hns i (hlt0 i (.inl e))) (fun i e => hns i (hlt0 i (.inr (.inl e)))) (fun i e => hns i (hlt0 i (.inr (.inr e))))
          (fun p hp => (hsp4.ent p hp).1) (fun p hp => (hsp4.enum p hp).1) (fun p hp => (hsp4.com p hp).1) (fun p hp => (hsp4.enum p hp).2.1.enumV)
          (hsp0.C0.mono fun _ _ _ _ q => q.keep (M' := RSD (· = w3.heap.size) w.heap.size (w.heap.size + 1) (w.heap.size + 1 + 1)) (kw'.then k4) (fun i hi h => by omega) (fun i hi h => (hns i hi h).elim)))
        have HP := Lib.hid (And.intro hpm (And.intro hp (And.intro hit' (And.intro hk' (And.intro hsz' (And.intro kw' (And.intro k4 hsp4)))))))
        dsimp only at hnext hentry
        clear hpm hp hit' hk' hsz' kw' hsp hrs' hsp0 k4 hrs4 hsp4 hns hlt0
        go_wp2_with fail
        refine HC.out.mono ?_
        rintro e w5 ⟨hout, k5⟩
        clear hnext hentry
        unfold RegOut at hout
        by_cases hdup : le'.any (fun p => (kget ln' p.1).isSome) = true
        · rw [if_pos hdup] at hout
          obtain ⟨a, rfl⟩ := hout
          have HX := Lib.hid (And.intro hdup k5)
          clear hdup k5
          go_wp2_with fail
          go_ret2
          obtain ⟨hpm, hp, hit', hk', hsz', kw', k4, hsp4⟩ := HP.out
          refine ⟨.inl ⟨⟨a, rfl⟩, .inl (.inr (.inl ⟨pk, List.mem_map.2 ⟨_, hpm, rfl⟩, (dup_any hsp4).1 HX.out.1⟩))⟩, ((kw'.then k4).trans HX.out.2 (M'' := fun i => w.heap.size ≤ i) (fun _ _ h => h) (fun i hi h => by rcases h with h | h | h <;> omega)).mono fun i hi h => by omega⟩
        · rw [if_neg hdup] at hout
          obtain ⟨rfl, V', hrs5, henv5⟩ := hout
          have HX := Lib.hid (And.intro hdup (And.intro k5 (And.intro hrs5 henv5)))
          clear hdup k5 hrs5 henv5
          go_wp2_with fail
          go_roundg lf.length
          case measure =>
            have h1 := HP.out.2.1.length_eq
            have h2 := HF.out.1
            rw [List.length_cons] at h1; omega
          case rel =>
            obtain ⟨hpm, hp, hit', hk', hsz', kw', k4, hsp4⟩ := HP.out
            obtain ⟨hdup, k5, hrs5, henv5⟩ := HX.out
            have hms := HA.out.1.m4.ltO
            have hw3 := HD.out.2.1.size
            have hst := Met.step hp HF.out.2.it.sub HF.out.2.it.map.nodup
            refine ⟨lf, V', rfl, (hit'.keep k4 (fun _ _ h => h) (fun h => h)).keep k5 (fun i e h => ?_) (fun h => ?_), (kw'.then k4).trans k5 (M'' := fun i => w.heap.size ≤ i) (fun _ _ h => h) (fun i hi h => ?_), hrs5, EnvAdd.env HF.out.2.env (by rw [← hsp4.k0, ← hsp4.k1]; exact henv5) hst, fun s hs => ?_⟩
            · have := hms i e; rcases h with h | h | h <;> omega
            · have h1 := HF.out.2.rs.apart
              have h9 := hrs5.nE
              have h8 := hrs5.nN
              have h7 := hrs5.nC
              rcases h with h | h | h
              · exact h9 h.symm
              · exact h8 h.symm
              · exact h7 h.symm
            · rcases h with h | h | h <;> omega
            · rcases (hst s).1 hs with rfl | hs
              · exact fun h => hdup ((dup_any hsp4).2 h)
              · exact HF.out.2.nodup s hs
end Go.Proofs.YtedgonoeeeiilaaGreatDoor
