/- The walks of collectTypeRefs (on types without records) and resolveTypeRefPath. -/
import Derived.Test.YthhjehajdcgkhaaGreatDoorWd
import Derived.Test.YthhjehajdcgkhaaGreatDoorOut
import Derived.Test.YthhjehajdcgkhaaGreatDoorFl
namespace Go.Proofs.YthhjehajdcgkhaaGreatDoor
open Go.RowKit

/-- a name that stands in a type -/
inductive RefIn (y : Str) : ATy → Prop
  | ref : RefIn y (.ref y)
  | set {t : ATy} : RefIn y t → RefIn y (.set t)
  | record {l : List (Str × ATy × Bool)} {k : Str} {t : ATy} {o : Bool} : (k, t, o) ∈ l → RefIn y t → RefIn y (.record l)
/-- what the names of a type are gathered to -/
def RefsOut (w : World) (t : ATy) (e : Ending) (w' : World) : Prop :=
  ∃ (rs : List Str) (o : Option Addr) (c : Nat), e = .returned (.slice o rs.length c) ∧ (∀ y, y ∈ rs ↔ RefIn y t) ∧ rs.length ≤ 1000000 ∧ StrsAt w' (· < w.heap.size) rs (.slice o rs.length c) ∧ Keep NoB w w'
theorem refs_none {w : World} {t : ATy} (h : ∀ y, ¬ RefIn y t) {w' : World} (k : Keep NoB w w') : RefsOut w t (.returned (.slice none 0 0)) w' :=
  ⟨[], none, 0, rfl, fun y => ⟨fun h => by simp at h, fun q => (h y q).elim⟩, by simp, ⟨none, 0, rfl, .inl rfl⟩, k⟩

set_option maxRecDepth 100000 in
set_option maxHeartbeats 4000000 in
theorem collectRefs_c {t : ATy} (hf : Flat t) : ∀ (w0 : World) (M : Nat → Prop) (v : Value), ATyIs w0 M t v → ∀ w, Keep NoB w0 w → Calls Tryz.prog 85 #[v] w (RefsOut w t) := by
  induction hf with
  | ref s =>
    intro w0 M v h w _
    cases h
    have y := taY_aRef
    go_enter Tryz.func85, Tryz.ntmps85
    go_wp2_with fail
    go_ret
    refine ⟨[s], _, _, rfl, fun y => ⟨fun h => ?_, fun h => ?_⟩, by simp, ⟨_, _, rfl, .inr ⟨w.heap.size, 0, rfl, fun h => by omega, fun i hi => ?_⟩⟩, Keep.alloc _ _ _⟩
    · simp only [List.mem_singleton] at h; subst h; exact .ref
    · cases h; simp
    · have hi0 : i = 0 := by simp at hi; omega
      subst hi0
      refine ⟨rfl, fun j v hj => ?_⟩
      match j, hj with
      | 0, hj =>
        simp only [List.getElem?_cons_zero, Option.some.injEq] at hj
        subst hj
        rw [cell_cells (MapKept.heap_alloc w _).1]; rfl
      | j + 1, hj => simp at hj
  | @set t hf ih =>
    intro w0 M v h w k
    cases h with
    | @set _ v hv =>
      obtain ⟨T, x, rfl⟩ := hv.iface
      have HI := Lib.hid (And.intro (ih w0 M _ hv) k)
      clear hv ih k
      have n0 := taN_aRef 249 (by decide)
      have y := taY_aSet
      go_enter Tryz.func85, Tryz.ntmps85
      go_wp2_with fail
      refine (HI.out.1 _ (HI.out.2.then (Keep.alloc _ _ _))).mono ?_
      rintro e w2 ⟨rs, o, c, rfl, h1, h2, h3, k2⟩
      have HQ := Lib.hid (And.intro h1 (And.intro h2 (And.intro h3 k2)))
      clear h1 h2 h3 k2
      obtain ⟨n, hn⟩ : ∃ n, n = rs.length := ⟨_, rfl⟩
      rw [← hn]
      have HN := Lib.hid hn
      clear hn
      go_wp2_with fail
      go_ret
      obtain ⟨h1, h2, h3, k2⟩ := HQ.out
      refine ⟨rs, o, c, by rw [HN.out]; rfl, fun y => ?_, h2, StrsAt.keep.k (Keep.refl NoB _) (fun _ _ h => h.elim) (fun i hi h => ?_) h3, (Keep.alloc _ _ NoB).then k2⟩
      · rw [h1]
        exact ⟨.set, fun h => by cases h; assumption⟩
      · show i < _
        rw [World.size_alloc]; omega
  | str =>
    intro w0 M v h w _
    cases h
    have n0 := taN_aRef 242 (by decide)
    have n1 := taN_aSet 242 (by decide)
    have n2 := taN_aRec 242 (by decide)
    have n3 := taN_aBool 242 (by decide)
    have n4 := taN_aEnt 242 (by decide)
    have n5 := taN_aExt 242 (by decide)
    have n6 := taN_aLong 242 (by decide)
    have y := taY_aStr
    go_enter Tryz.func85, Tryz.ntmps85
    go_wp2_with fail
    go_ret
    exact refs_none (fun y h => by cases h) (Keep.refl _ _)
  | long =>
    intro w0 M v h w _
    cases h
    have n0 := taN_aRef 244 (by decide)
    have n1 := taN_aSet 244 (by decide)
    have n2 := taN_aRec 244 (by decide)
    have n3 := taN_aBool 244 (by decide)
    have n4 := taN_aEnt 244 (by decide)
    have n5 := taN_aExt 244 (by decide)
    have n6 := taN_aStr 244 (by decide)
    have y := taY_aLong
    go_enter Tryz.func85, Tryz.ntmps85
    go_wp2_with fail
    go_ret
    exact refs_none (fun y h => by cases h) (Keep.refl _ _)
  | bool =>
    intro w0 M v h w _
    cases h
    have n0 := taN_aRef 246 (by decide)
    have n1 := taN_aSet 246 (by decide)
    have n2 := taN_aRec 246 (by decide)
    have n3 := taN_aStr 246 (by decide)
    have n4 := taN_aEnt 246 (by decide)
    have n5 := taN_aExt 246 (by decide)
    have n6 := taN_aLong 246 (by decide)
    have y := taY_aBool
    go_enter Tryz.func85, Tryz.ntmps85
    go_wp2_with fail
    go_ret
    exact refs_none (fun y h => by cases h) (Keep.refl _ _)
  | ext s =>
    intro w0 M v h w _
    cases h
    have n0 := taN_aRef 247 (by decide)
    have n1 := taN_aSet 247 (by decide)
    have n2 := taN_aRec 247 (by decide)
    have n3 := taN_aStr 247 (by decide)
    have n4 := taN_aEnt 247 (by decide)
    have n5 := taN_aBool 247 (by decide)
    have n6 := taN_aLong 247 (by decide)
    have y := taY_aExt
    go_enter Tryz.func85, Tryz.ntmps85
    go_wp2_with fail
    go_ret
    exact refs_none (fun y h => by cases h) (Keep.refl _ _)
  | ent s =>
    intro w0 M v h w _
    cases h
    have n0 := taN_aRef 235 (by decide)
    have n1 := taN_aSet 235 (by decide)
    have n2 := taN_aRec 235 (by decide)
    have n3 := taN_aStr 235 (by decide)
    have n4 := taN_aExt 235 (by decide)
    have n5 := taN_aBool 235 (by decide)
    have n6 := taN_aLong 235 (by decide)
    have y := taY_aEnt
    go_enter Tryz.func85, Tryz.ntmps85
    go_wp2_with fail
    go_ret
    exact refs_none (fun y h => by cases h) (Keep.refl _ _)

/-- what a name in a namespace stands for, among common types -/
def pathOf (V : Env) (ns r : Str) : Str :=
  if hasSub r ⟨#[58, 58]⟩ = true then r else if ¬ ns = ByteArray.empty ∧ (kget V.C (qual ns r)).isSome = true then qual ns r else r
set_option maxRecDepth 100000 in
set_option maxHeartbeats 4000000 in
theorem refPath_c (w : World) (M : Nat → Prop) (b mE mN mC : Nat) (V : Env) (h : RS w M b mE mN mC V) (ns r : Str) (hn : ns.size ≤ 1000000) (hr : r.size ≤ 1000000) :
    Calls Tryz.prog 86 #[.pointer (some ⟨b, 0, none⟩), .string ns, .string r] w fun e w' => e = .returned (.string (pathOf V ns r)) ∧ w' = w := by
  obtain ⟨lv, hC, hR⟩ := h.commons'
  have c2 := h.c2
  have hl := commons_look hC hR (qual ns r)
  clear h hC hR
  by_cases hs : hasSub r ⟨#[58, 58]⟩ = true
  · have hp : pathOf V ns r = r := by unfold pathOf; rw [if_pos hs]
    rw [hp]
    clear hl hp
    go_enter Tryz.func86, Tryz.ntmps86
    go_wp2_with fail
    refine (zzContains_c r ⟨#[58, 58]⟩ _ (by show r.size + 2 < _; omega)).mono ?_
    rintro e w' ⟨rfl, rfl⟩
    rw [hs]
    go_wp2_with fail
    go_ret
    exact ⟨rfl, rfl⟩
  · have hs' : hasSub r ⟨#[58, 58]⟩ = false := by simpa using hs
    by_cases hns : ns = ByteArray.empty
    · have hp : pathOf V ns r = r := by unfold pathOf; rw [if_neg hs, if_neg (fun h => h.1 hns)]
      rw [hp]
      subst hns
      clear hl hp
      go_enter Tryz.func86, Tryz.ntmps86
      go_wp2_with fail
      refine (zzContains_c r ⟨#[58, 58]⟩ _ (by show r.size + 2 < _; omega)).mono ?_
      rintro e w' ⟨rfl, rfl⟩
      rw [hs']
      go_wp2_with fail
      go_ret
      exact ⟨rfl, rfl⟩
    · have hne := ne_empty hns
      have hq : qual ns r = ns ++ ⟨#[58, 58]⟩ ++ r := by unfold qual; rw [if_neg hns]
      rw [hq] at hl
      rcases hl with ⟨t, v, h1, _, h2⟩ | ⟨h1, h2⟩
      · have hp : pathOf V ns r = ns ++ ⟨#[58, 58]⟩ ++ r := by unfold pathOf; rw [if_neg hs, if_pos ⟨hns, by rw [hq, h1]; rfl⟩, hq]
        rw [hp]
        clear h1 hp hq
        go_enter Tryz.func86, Tryz.ntmps86
        go_wp2_with fail
        refine (zzContains_c r ⟨#[58, 58]⟩ _ (by show r.size + 2 < _; omega)).mono ?_
        rintro e w' ⟨rfl, rfl⟩
        rw [hs']
        go_wp2_with fail
        go_ret
        exact ⟨rfl, rfl⟩
      · have hp : pathOf V ns r = r := by unfold pathOf; rw [if_neg hs, if_neg (fun h => by rw [hq, h1] at h; exact absurd h.2 (by decide))]
        rw [hp]
        clear h1 hp hq
        go_enter Tryz.func86, Tryz.ntmps86
        go_wp2_with fail
        refine (zzContains_c r ⟨#[58, 58]⟩ _ (by show r.size + 2 < _; omega)).mono ?_
        rintro e w' ⟨rfl, rfl⟩
        rw [hs']
        go_wp2_with fail
        go_ret
        exact ⟨rfl, rfl⟩
end Go.Proofs.YthhjehajdcgkhaaGreatDoor
