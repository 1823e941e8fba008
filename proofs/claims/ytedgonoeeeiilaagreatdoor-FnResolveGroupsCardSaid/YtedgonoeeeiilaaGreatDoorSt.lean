/- The walk of schemaTypes. -/
import Derived.Test.YtedgonoeeeiilaaGreatDoorPl
namespace Go.Proofs.YtedgonoeeeiilaaGreatDoor
open Go.RowKit

def shX (x : Str) : List (Str × IEnt) := [(x, ⟨[], [], none⟩)]
theorem sh_en (x : Str) : (spOf (shX x) [] [] []).en = [x] := rfl
theorem sh_AE (x : Str) : (spOf (shX x) [] [] []).AE x = ⟨[], none, none⟩ := by
  simp [spOf, shX, kget, IEnt.ast]

/-! ### schemaTypes -/
def stL (x : Str) : List ISp := [⟨⟨#[]⟩, shX x, [], [], []⟩]
def stD : Str → SpD := fun _ => spOf [] [] [] []
theorem st_bare (x : Str) : bareSp (stL x) = spOf (shX x) [] [] [] := by
  unfold bareSp stL
  simp
theorem st_named (x : Str) : namedSp (stL x) = [] := by
  unfold namedSp stL
  simp
theorem st_ents {V : Env} {x n : Str} {v : REnt} (h : EntsOf V 5 (bareSp (stL x)) stD (· ∈ namedSp (stL x)) n v) : n = x ∧ v = ⟨x, [], none, none⟩ := by
  rw [st_bare, st_named] at h
  rcases h with ⟨m, hm, h1, h2⟩ | ⟨s, hs, _⟩
  · rw [sh_en] at hm
    simp only [List.mem_singleton] at hm
    subst hm
    rw [qual0] at h1
    rw [sh_AE, REntOf_zero, qual0] at h2
    exact ⟨h1, h2⟩
  · simp at hs
theorem st_acts {V : Env} {x : Str} {n : Uid} {v : RAct} : ¬ ActsOf V 5 (bareSp (stL x)) stD (· ∈ namedSp (stL x)) n v := by
  rw [st_bare, st_named]
  rintro (⟨m, hm, _⟩ | ⟨s, hs, _⟩)
  · simp [spOf] at hm
  · simp at hs
theorem st_ok {x : Str} (sx : x.size ≤ 1000) : ResOk (stL x) stD 5 := by
  refine ⟨.none (by rw [st_bare]; rfl) (fun _ _ => rfl), fun V hV _ => ⟨fun n hn => ?_, fun s hs n hn => ?_, fun n hn => ?_, fun s hs n hn => ?_⟩, fun V hV _ n v h => ?_, ⟨[x], by simp, fun n hn => ?_, fun V hV _ n v h => ?_⟩, ⟨[], by simp, fun n hn => by simp at hn, fun n v h => ?_⟩, fun V hV _ n v h => (st_acts h).elim, ⟨[], by simp, fun V hV _ n v h => (st_acts h).elim⟩⟩
  · rw [st_bare] at hn ⊢
    rw [sh_en] at hn
    simp only [List.mem_singleton] at hn
    subst hn
    rw [sh_AE]
    exact ⟨_, resEnt_zero _ _ _ _⟩
  · rw [st_named] at hs; simp at hs
  · rw [st_bare] at hn; simp [spOf] at hn
  · rw [st_named] at hs; simp at hs
  · obtain ⟨_, rfl⟩ := st_ents h
    exact ⟨by simp, (fun t h => by simp at h), (fun t h => by simp at h)⟩
  · simp only [List.mem_singleton] at hn
    subst hn; omega
  · rw [(st_ents h).1]; simp
  · rw [st_bare, st_named] at h
    rcases h with ⟨m, hm, _⟩ | ⟨s, hs, m, hm, _⟩
    · simp [spOf] at hm
    · simp at hs
theorem st_post {x : Str} {w w' : World} {e : Ending} (h : ImplPost (stL x) stD 5 w e w') :
    ∃ (sE sN sA : Sl), e = .returned (.tuple #[.agg #[slV sE, slV sN, slV sA], .bool true, .bool false]) ∧ sE.2.1 = 1 ∧ Keep NoB w w' := by
  rcases h with ⟨_, hbad, _⟩ | ⟨hw, V, hV, _, _, hr, _, _, _, lE, lN, lA, sE, sN, sA, he, hrow, _, _, ⟨_, hnod⟩, _, _, hfrom, hto, _, _, _, _, hk⟩
  · exfalso
    rw [st_bare, st_named] at hbad
    rcases hbad with (⟨n, _, h⟩ | ⟨s, hs, _⟩ | ⟨s, hs, _⟩) | ⟨V, hV, h | ⟨_, (⟨n, hn, h⟩ | ⟨s, hs, _⟩ | ⟨n, hn, _⟩ | ⟨s, hs, _⟩) | ⟨RA, hRA, hbm⟩⟩⟩
    · simp [spOf] at h
    · simp at hs
    · simp at hs
    · exact h (acyc_none (hV.noC rfl (fun _ _ => rfl)))
    · rw [sh_en] at hn
      simp only [List.mem_singleton] at hn
      subst hn
      rw [sh_AE, resEnt_zero] at h
      cases h
    · simp at hs
    · simp [spOf] at hn
    · simp at hs
    · have hnone : ∀ u, kget RA u = none := fun u => by
        cases hu : kget RA u with
        | none => rfl
        | some a => exact (st_acts (x := x) (V := V) (n := u) (v := a) (by rw [st_bare, st_named]; exact hRA.made.back _ _ hu)).elim
      rcases hbm with ⟨u, a, hu, _⟩ | ⟨u, hu⟩
      · rw [hnone u] at hu; cases hu
      · refine hu ⟨_, fun p hp => ?_⟩
        have : p ∈ parU RA u := hp
        unfold parU at this
        rw [hnone u] at this
        simp at this
  · refine ⟨sE, sN, sA, he, ?_, hk⟩
    rw [hrow.1]
    have h1 : x ∈ lE.map (·.1) := hto x (REntOf V 5 ⟨#[]⟩ x ⟨[], none, none⟩) (by
      rw [st_bare]
      exact .inl ⟨x, by rw [sh_en]; simp, (qual0 x).symm, by rw [sh_AE]⟩)
    have h2 := length_le_of_subset hnod (b := [x]) (fun n hn => by
      obtain ⟨p, hp, rfl⟩ := List.mem_map.1 hn
      obtain ⟨v, hv, _⟩ := hfrom p hp
      rw [(st_ents hv).1]; simp)
    have h3 := List.length_pos_of_mem h1
    simp only [List.length_map, List.length_cons, List.length_nil] at h2 h3
    omega

set_option maxRecDepth 100000 in
set_option maxHeartbeats 4000000 in
theorem schemaTypes_c (w : World) : Calls Tryz.prog 7 #[] w fun e w' => e = .returned (.bool true) ∧ Keep NoB w w' := by
  obtain ⟨O1, hO1⟩ : ∃ O1 : Obj, O1 = .cells #[.string ⟨#[65]⟩, .slice none 0 0, .slice none 0 0, .bool false, .int .i64 0, .string ⟨#[]⟩, .slice none 0 0, .slice none 0 0] 53 := ⟨_, rfl⟩
  obtain ⟨O2, hO2⟩ : ∃ O2 : Obj, O2 = .cells #[.string ⟨#[]⟩, .slice (some ⟨w.heap.size, 0, none⟩) 1 1, .slice none 0 0, .slice none 0 0, .slice none 0 0] 44 := ⟨_, rfl⟩
  have k1 : Keep NoB w (w.alloc O1) := Keep.alloc _ _ _
  have k2 : Keep NoB (w.alloc O1) ((w.alloc O1).alloc O2) := Keep.alloc _ _ _
  have hb1 := k2.heap (MapKept.heap_alloc w O1).1 (NoB.not _)
  have hb2 := (MapKept.heap_alloc (w.alloc O1) O2).1
  rw [World.size_alloc] at hb2
  have hall : IAll ((w.alloc O1).alloc O2) NoB (stL ⟨#[65]⟩) stD (some ⟨w.heap.size + 1, 0, none⟩) := by
    refine ⟨by simp [stL], by rw [st_named]; simp, fun S hS hn => ?_, fun S hS => ?_, .inr ⟨_, 0, rfl, fun i S hi => ?_⟩⟩
    · simp only [stL, List.mem_singleton] at hS
      subst hS
      exact (hn rfl).elim
    · simp only [stL, List.mem_singleton] at hS
      subst hS
      decide
    · rcases i with _ | i
      · simp only [stL, List.getElem?_cons_zero, Option.some.injEq] at hi
        subst hi
        subst hO1 hO2
        exact ⟨(some ⟨w.heap.size, 0, none⟩, 1, 1), (none, 0, 0), (none, 0, 0), (none, 0, 0), cellsAt_of_block hb2, isp_of (givenE_one (by decide) (cellsAt_of_block hb1)) (.nil _)⟩
      · simp [stL] at hi
  have HC := Lib.hid (And.intro (implResolve_c _ NoB (stL ⟨#[65]⟩) stD (some ⟨w.heap.size + 1, 0, none⟩) 1 hall 5 (st_ok (by decide)) _ (Keep.refl _ _)) (k1.then k2))
  subst hO1 hO2
  clear hall hb1 hb2 k1 k2
  go_enter Tryz.func7, Tryz.ntmps7
  go_wp2_with fail
  refine HC.out.1.mono ?_
  intro e w' hpost
  obtain ⟨sE, sN, sA, rfl, h1, hk⟩ := st_post hpost
  obtain ⟨eo, en, ec⟩ := sE
  dsimp only at h1
  subst h1
  have HK := Lib.hid hk
  clear hk hpost
  go_wp2_with fail
  go_ret
  exact ⟨rfl, (HC.out.2.then HK.out).then (Keep.alloc _ _ _)⟩

/-! ### the law -/
end Go.Proofs.YtedgonoeeeiilaaGreatDoor
