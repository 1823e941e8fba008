/- Fl, Cr, Kah, Qu, Kb: joined. -/
import Derived.Test.YtedgonoeeeiilaaGreatDoorJBase
import Derived.Test.YtedgonoeeeiilaaGreatDoorWd
import Derived.Test.YtedgonoeeeiilaaGreatDoorOut
import Derived.Maps.AppendAt
/- Types without records. -/
namespace Go.Proofs.YtedgonoeeeiilaaGreatDoor

/-- a type without records -/
inductive Flat : ATy → Prop
  | str : Flat .str
  | long : Flat .long
  | bool : Flat .bool
  | ext (s : Str) : Flat (.ext s)
  | set {t : ATy} : Flat t → Flat (.set t)
  | ent (s : Str) : Flat (.ent s)
  | ref (s : Str) : Flat (.ref s)
end Go.Proofs.YtedgonoeeeiilaaGreatDoor
/- The walks of collectTypeRefs (on types without records) and resolveTypeRefPath. -/
namespace Go.Proofs.YtedgonoeeeiilaaGreatDoor
open Go.RowKit

/-- a name that stands in a type -/
inductive RefIn (y : Str) : ATy → Prop
  | ref : RefIn y (.ref y)
  | set {t : ATy} : RefIn y t → RefIn y (.set t)
  | record {l : List (Str × ATy × Bool)} {k : Str} {t : ATy} {o : Bool} : (k, t, o) ∈ l → RefIn y t → RefIn y (.record l)
/-- what the names of a type are gathered to -/
def RefsOut (w : World) (t : ATy) (e : Ending) (w' : World) : Prop :=
  ∃ (rs : List Str) (o : Option Addr) (c : Nat), e = .returned (.slice o rs.length c) ∧ (∀ y, y ∈ rs ↔ RefIn y t) ∧ rs.length ≤ 1000000 ∧ StrsAt w' (· < w.heap.size) rs (.slice o rs.length c) ∧ Keep NoB w w'
theorem refs_none {w : World} {t : ATy} (h : ∀ y, ¬ RefIn y t) {w' : World} (k : Keep NoB w w') : RefsOut w t (.returned (.slice none 0 0)) w' :=
  ⟨[], none, 0, rfl, fun y => ⟨fun h => by simp at h, fun q => (h y q).elim⟩, by simp, ⟨none, 0, rfl, .inl rfl⟩, k⟩

set_option maxRecDepth 100000 in
set_option maxHeartbeats 4000000 in
theorem collectRefs_c {t : ATy} (hf : Flat t) : ∀ (w0 : World) (M : Nat → Prop) (v : Value), ATyIs w0 M t v → ∀ w, Keep NoB w0 w → Calls Tryz.prog 80 #[v] w (RefsOut w t) := by
  induction hf with
  | ref s =>
    intro w0 M v h w _
    cases h
    have y := taY_aRef
    go_enter Tryz.func80, Tryz.ntmps80
    go_wp2_with fail
    go_ret
    refine ⟨[s], _, _, rfl, fun y => ⟨fun h => ?_, fun h => ?_⟩, by simp, ⟨_, _, rfl, .inr ⟨w.heap.size, 0, rfl, fun h => by omega, fun i hi => ?_⟩⟩, Keep.alloc _ _ _⟩
    · simp only [List.mem_singleton] at h; subst h; exact .ref
    · cases h; simp
    · have hi0 : i = 0 := by simp at hi; omega
      subst hi0
      refine ⟨rfl, fun j v hj => ?_⟩
      match j, hj with
      | 0, hj =>
        simp only [List.getElem?_cons_zero, Option.some.injEq] at hj
        subst hj
        rw [cell_cells (MapKept.heap_alloc w _).1]; rfl
      | j + 1, hj => simp at hj
  | @set t hf ih =>
    intro w0 M v h w k
    cases h with
    | @set _ v hv =>
      obtain ⟨T, x, rfl⟩ := hv.iface
      have HI := Lib.hid (And.intro (ih w0 M _ hv) k)
      clear hv ih k
      have n0 := taN_aRef 244 (by decide)
      have y := taY_aSet
      go_enter Tryz.func80, Tryz.ntmps80
      go_wp2_with fail
      refine (HI.out.1 _ (HI.out.2.then (Keep.alloc _ _ _))).mono ?_
      rintro e w2 ⟨rs, o, c, rfl, h1, h2, h3, k2⟩
      have HQ := Lib.hid (And.intro h1 (And.intro h2 (And.intro h3 k2)))
      clear h1 h2 h3 k2
      obtain ⟨n, hn⟩ : ∃ n, n = rs.length := ⟨_, rfl⟩
      rw [← hn]
      have HN := Lib.hid hn
      clear hn
      go_wp2_with fail
      go_ret
      obtain ⟨h1, h2, h3, k2⟩ := HQ.out
      refine ⟨rs, o, c, by rw [HN.out]; rfl, fun y => ?_, h2, StrsAt.keep.k (Keep.refl NoB _) (fun _ _ h => h.elim) (fun i hi h => ?_) h3, (Keep.alloc _ _ NoB).then k2⟩
      · rw [h1]
        exact ⟨.set, fun h => by cases h; assumption⟩
      · show i < _
        rw [World.size_alloc]; omega
  | str =>
    intro w0 M v h w _
    cases h
    have n0 := taN_aRef 237 (by decide)
    have n1 := taN_aSet 237 (by decide)
    have n2 := taN_aRec 237 (by decide)
    have n3 := taN_aBool 237 (by decide)
    have n4 := taN_aEnt 237 (by decide)
    have n5 := taN_aExt 237 (by decide)
    have n6 := taN_aLong 237 (by decide)
    have y := taY_aStr
    go_enter Tryz.func80, Tryz.ntmps80
    go_wp2_with fail
    go_ret
    exact refs_none (fun y h => by cases h) (Keep.refl _ _)
  | long =>
    intro w0 M v h w _
    cases h
    have n0 := taN_aRef 239 (by decide)
    have n1 := taN_aSet 239 (by decide)
    have n2 := taN_aRec 239 (by decide)
    have n3 := taN_aBool 239 (by decide)
    have n4 := taN_aEnt 239 (by decide)
    have n5 := taN_aExt 239 (by decide)
    have n6 := taN_aStr 239 (by decide)
    have y := taY_aLong
    go_enter Tryz.func80, Tryz.ntmps80
    go_wp2_with fail
    go_ret
    exact refs_none (fun y h => by cases h) (Keep.refl _ _)
  | bool =>
    intro w0 M v h w _
    cases h
    have n0 := taN_aRef 241 (by decide)
    have n1 := taN_aSet 241 (by decide)
    have n2 := taN_aRec 241 (by decide)
    have n3 := taN_aStr 241 (by decide)
    have n4 := taN_aEnt 241 (by decide)
    have n5 := taN_aExt 241 (by decide)
    have n6 := taN_aLong 241 (by decide)
    have y := taY_aBool
    go_enter Tryz.func80, Tryz.ntmps80
    go_wp2_with fail
    go_ret
    exact refs_none (fun y h => by cases h) (Keep.refl _ _)
  | ext s =>
    intro w0 M v h w _
    cases h
    have n0 := taN_aRef 242 (by decide)
    have n1 := taN_aSet 242 (by decide)
    have n2 := taN_aRec 242 (by decide)
    have n3 := taN_aStr 242 (by decide)
    have n4 := taN_aEnt 242 (by decide)
    have n5 := taN_aBool 242 (by decide)
    have n6 := taN_aLong 242 (by decide)
    have y := taY_aExt
    go_enter Tryz.func80, Tryz.ntmps80
    go_wp2_with fail
    go_ret
    exact refs_none (fun y h => by cases h) (Keep.refl _ _)
  | ent s =>
    intro w0 M v h w _
    cases h
    have n0 := taN_aRef 230 (by decide)
    have n1 := taN_aSet 230 (by decide)
    have n2 := taN_aRec 230 (by decide)
    have n3 := taN_aStr 230 (by decide)
    have n4 := taN_aExt 230 (by decide)
    have n5 := taN_aBool 230 (by decide)
    have n6 := taN_aLong 230 (by decide)
    have y := taY_aEnt
    go_enter Tryz.func80, Tryz.ntmps80
    go_wp2_with fail
    go_ret
    exact refs_none (fun y h => by cases h) (Keep.refl _ _)

/-- what a name in a namespace stands for, among common types -/
def pathOf (V : Env) (ns r : Str) : Str :=
  if hasSub r ⟨#[58, 58]⟩ = true then r else if ¬ ns = ByteArray.empty ∧ (kget V.C (qual ns r)).isSome = true then qual ns r else r
set_option maxRecDepth 100000 in
set_option maxHeartbeats 4000000 in
theorem refPath_c (w : World) (M : Nat → Prop) (b mE mN mC : Nat) (V : Env) (h : RS w M b mE mN mC V) (ns r : Str) (hn : ns.size ≤ 1000000) (hr : r.size ≤ 1000000) :
    Calls Tryz.prog 81 #[.pointer (some ⟨b, 0, none⟩), .string ns, .string r] w fun e w' => e = .returned (.string (pathOf V ns r)) ∧ w' = w := by
  obtain ⟨lv, hC, hR⟩ := h.commons'
  have c2 := h.c2
  have hl := commons_look hC hR (qual ns r)
  clear h hC hR
  by_cases hs : hasSub r ⟨#[58, 58]⟩ = true
  · have hp : pathOf V ns r = r := by unfold pathOf; rw [if_pos hs]
    rw [hp]
    clear hl hp
    go_enter Tryz.func81, Tryz.ntmps81
    go_wp2_with fail
    refine (zzContains_c r ⟨#[58, 58]⟩ _ (by show r.size + 2 < _; omega)).mono ?_
    rintro e w' ⟨rfl, rfl⟩
    rw [hs]
    go_wp2_with fail
    go_ret
    exact ⟨rfl, rfl⟩
  · have hs' : hasSub r ⟨#[58, 58]⟩ = false := by simpa using hs
    by_cases hns : ns = ByteArray.empty
    · have hp : pathOf V ns r = r := by unfold pathOf; rw [if_neg hs, if_neg (fun h => h.1 hns)]
      rw [hp]
      subst hns
      clear hl hp
      go_enter Tryz.func81, Tryz.ntmps81
      go_wp2_with fail
      refine (zzContains_c r ⟨#[58, 58]⟩ _ (by show r.size + 2 < _; omega)).mono ?_
      rintro e w' ⟨rfl, rfl⟩
      rw [hs']
      go_wp2_with fail
      go_ret
      exact ⟨rfl, rfl⟩
    · have hne := ne_empty hns
      have hq : qual ns r = ns ++ ⟨#[58, 58]⟩ ++ r := by unfold qual; rw [if_neg hns]
      rw [hq] at hl
      rcases hl with ⟨t, v, h1, _, h2⟩ | ⟨h1, h2⟩
      · have hp : pathOf V ns r = ns ++ ⟨#[58, 58]⟩ ++ r := by unfold pathOf; rw [if_neg hs, if_pos ⟨hns, by rw [hq, h1]; rfl⟩, hq]
        rw [hp]
        clear h1 hp hq
        go_enter Tryz.func81, Tryz.ntmps81
        go_wp2_with fail
        refine (zzContains_c r ⟨#[58, 58]⟩ _ (by show r.size + 2 < _; omega)).mono ?_
        rintro e w' ⟨rfl, rfl⟩
        rw [hs']
        go_wp2_with fail
        go_ret
        exact ⟨rfl, rfl⟩
      · have hp : pathOf V ns r = r := by unfold pathOf; rw [if_neg hs, if_neg (fun h => by rw [hq, h1] at h; exact absurd h.2 (by decide))]
        rw [hp]
        clear h1 hp hq
        go_enter Tryz.func81, Tryz.ntmps81
        go_wp2_with fail
        refine (zzContains_c r ⟨#[58, 58]⟩ _ (by show r.size + 2 < _; omega)).mono ?_
        rintro e w' ⟨rfl, rfl⟩
        rw [hs']
        go_wp2_with fail
        go_ret
        exact ⟨rfl, rfl⟩
end Go.Proofs.YtedgonoeeeiilaaGreatDoor
/- Kahn's algorithm on lists of names; no program in sight. -/
namespace Go.Proofs.YtedgonoeeeiilaaGreatDoor

section
variable (C : List Str) (dp : Str → List Str)

/-- how often x stands in the lists of the names of l -/
def indeg (l : List Str) (x : Str) : Nat := (l.map fun a => (dp a).count x).sum
/-- the names that are still to be visited -/
def rest (P : List Str) : List Str := C.filter fun a => decide (a ∉ P)
variable {C dp}
theorem indeg_zero {l : List Str} {x : Str} : indeg dp l x = 0 ↔ ∀ a ∈ l, x ∉ dp a := by
  unfold indeg
  induction l with
  | nil => simp
  | cons b l ih =>
    simp only [List.map_cons, List.sum_cons, Nat.add_eq_zero_iff, ih, List.mem_cons, forall_eq_or_imp, List.count_eq_zero]
theorem indeg_perm {l l' : List Str} (h : l.Perm l') (x : Str) : indeg dp l x = indeg dp l' x := (h.map _).sum_nat
theorem mem_rest {P : List Str} {x : Str} : x ∈ rest C P ↔ x ∈ C ∧ x ∉ P := by
  unfold rest; rw [List.mem_filter, decide_eq_true_eq]
theorem rest_snoc (hn : C.Nodup) {P : List Str} {a : Str} (ha : a ∈ C) (hp : a ∉ P) : (rest C P).Perm (a :: rest C (P ++ [a])) := by
  refine (List.perm_ext_iff_of_nodup (hn.filter _) (List.nodup_cons.2 ⟨fun h => (mem_rest.1 h).2 (by simp), hn.filter _⟩)).2 fun x => ?_
  show x ∈ rest C P ↔ _
  rw [mem_rest, List.mem_cons, mem_rest]
  constructor
  · rintro ⟨h1, h2⟩
    by_cases e : x = a
    · exact .inl e
    · exact .inr ⟨h1, fun h => by
        rcases List.mem_append.1 h with h | h
        · exact h2 h
        · exact e (List.mem_singleton.1 h)⟩
  · rintro (rfl | ⟨h1, h2⟩)
    · exact ⟨ha, hp⟩
    · exact ⟨h1, fun h => h2 (List.mem_append.2 (.inl h))⟩

variable (C dp)
/-- The state: the degrees D, the queue Q, the names that have been visited P, in their order; of the last of these what is left of its list. -/
structure KSt (D : Str → Int) (Q P left : List Str) : Prop where
  nod : (P ++ Q).Nodup
  sub : ∀ x ∈ P ++ Q, x ∈ C
  deg : ∀ x ∈ C, D x = ((indeg dp (rest C P) x + left.count x : Nat) : Int)
  zero : ∀ x ∈ C, D x = 0 ↔ x ∈ P ++ Q
  ord : ∀ i a, P[i]? = some a → ∀ b ∈ C, a ∈ dp b → b ∈ P.take i
variable {C dp}
theorem KSt.start (_hn : C.Nodup) {D : Str → Int} {Q : List Str} (hD : ∀ x ∈ C, D x = (indeg dp C x : Nat)) (hQn : Q.Nodup) (hQ : ∀ x, x ∈ Q ↔ x ∈ C ∧ D x = 0) : KSt C dp D Q [] [] := by
  have e : rest C [] = C := by unfold rest; simp
  refine ⟨by simpa using hQn, fun x hx => ((hQ x).1 (by simpa using hx)).1, fun x hx => ?_, fun x hx => ?_, fun i a h => by simp at h⟩
  · rw [e, hD x hx]; simp
  · simp only [List.nil_append]
    exact ⟨fun h => (hQ x).2 ⟨hx, h⟩, fun h => ((hQ x).1 h).2⟩
/-- A name is taken from the queue. -/
theorem KSt.pop (hn : C.Nodup) {D : Str → Int} {a : Str} {Q P : List Str} (h : KSt C dp D (a :: Q) P []) : KSt C dp D Q (P ++ [a]) (dp a) := by
  have hmem : a ∈ P ++ (a :: Q) := by simp
  have haC := h.sub a hmem
  have hap : a ∉ P := fun hp => (List.nodup_append.1 h.nod).2.2 a hp a (by simp) rfl
  refine ⟨by simpa using h.nod, fun x hx => h.sub x (by simpa using hx), fun x hx => ?_, fun x hx => ?_, fun i b hb c hc hbc => ?_⟩
  · rw [h.deg x hx, indeg_perm (rest_snoc hn haC hap) x]
    unfold indeg
    simp only [List.map_cons, List.sum_cons, List.count_nil]
    omega
  · rw [h.zero x hx]; simp
  · rcases Nat.lt_or_ge i P.length with hi | hi
    · rw [List.getElem?_append_left hi] at hb
      rw [List.take_append_of_le_length (by omega)]
      exact h.ord i b hb c hc hbc
    · have hi0 : i = P.length := by
        rcases Nat.lt_or_ge P.length i with h1 | h1
        · rw [List.getElem?_eq_none (by simp; omega)] at hb; cases hb
        · omega
      subst hi0
      simp only [List.getElem?_concat_length, Option.some.injEq] at hb
      subst hb
      rw [List.take_left']
      · have h1 := (h.zero a haC).2 hmem
        rw [h.deg a haC] at h1
        have h2 : indeg dp (rest C P) a = 0 := by simp only [List.count_nil] at h1; omega
        rw [indeg_zero] at h2
        rcases Decidable.em (c ∈ P) with h3 | h3
        · exact h3
        · exact (h2 c (mem_rest.2 ⟨hc, h3⟩) hbc).elim
      · rfl
/-- One neighbour. -/
theorem KSt.step {D D' : Str → Int} {Q P left : List Str} {y : Str} (h : KSt C dp D Q P (y :: left)) (hy : y ∈ C) (hD : ∀ x, D' x = if x = y then D x - 1 else D x) :
    KSt C dp D' (if D' y = 0 then Q ++ [y] else Q) P left := by
  have h1 := h.deg y hy
  simp only [List.count_cons_self] at h1
  have hny : y ∉ P ++ Q := fun hm => by
    have := (h.zero y hy).2 hm
    omega
  have hD1 : D' y = D y - 1 := by rw [hD, if_pos rfl]
  refine ⟨?_, fun x hx => ?_, fun x hx => ?_, fun x hx => ?_, h.ord⟩
  · by_cases h0 : D' y = 0
    · rw [if_pos h0, ← List.append_assoc]
      refine List.nodup_append.2 ⟨h.nod, by simp, fun a ha b hb => ?_⟩
      simp only [List.mem_singleton] at hb
      subst hb
      exact fun e => hny (e ▸ ha)
    · rw [if_neg h0]; exact h.nod
  · by_cases h0 : D' y = 0
    · rw [if_pos h0, ← List.append_assoc] at hx
      rcases List.mem_append.1 hx with hx | hx
      · exact h.sub x hx
      · simp only [List.mem_singleton] at hx; exact hx ▸ hy
    · rw [if_neg h0] at hx; exact h.sub x hx
  · rw [hD]
    by_cases e : x = y
    · subst e
      rw [if_pos rfl, h1]; omega
    · rw [if_neg e, h.deg x hx, List.count_cons_of_ne (fun q => e q.symm)]
  · by_cases e : x = y
    · subst e
      by_cases h0 : D' x = 0
      · rw [if_pos h0]; simp [h0]
      · rw [if_neg h0]; exact ⟨fun q => (h0 q).elim, fun q => (hny q).elim⟩
    · have e1 : D' x = D x := by rw [hD, if_neg e]
      rw [e1, h.zero x hx]
      by_cases h0 : D' y = 0
      · rw [if_pos h0]; simp [e]
      · rw [if_neg h0]
theorem KSt.len {D : Str → Int} {Q P left : List Str} (h : KSt C dp D Q P left) : P.length + Q.length ≤ C.length := by
  have := length_le_of_subset h.nod h.sub
  simpa using this

/-- No circles: the names can be numbered so that each stands ahead of those of its list. -/
def Ranked (C : List Str) (dp : Str → List Str) : Prop := ∃ rank : Str → Nat, ∀ b ∈ C, ∀ a ∈ dp b, a ∈ C → rank b < rank a
theorem KSt.all {D : Str → Int} {P : List Str} (h : KSt C dp D [] P []) (hl : P.length = C.length) (_hn : C.Nodup) : Ranked C dp := by
  have hnod : P.Nodup := by have := h.nod; simpa using this
  have hall : ∀ x ∈ C, x ∈ P := subset_back hnod (b := C) (fun x hx => h.sub x (by simpa using hx)) (by omega)
  refine ⟨fun x => P.idxOf x, fun b hb a ha hac => ?_⟩
  have hap := hall a hac
  have hi : P.idxOf a < P.length := List.idxOf_lt_length_of_mem hap
  have hb' := h.ord (P.idxOf a) a (by rw [List.getElem?_eq_getElem hi, List.getElem_idxOf]) b hb ha
  obtain ⟨j, hj, hjb⟩ := List.getElem_of_mem hb'
  have hj2 : j < P.idxOf a := by rw [List.length_take] at hj; omega
  have hjb2 : P[j]'(by omega) = b := by rw [List.getElem_take] at hjb; exact hjb
  have h3 : P.idxOf b ≤ j := by
    rw [← hjb2]
    exact Nat.le_of_eq (List.Nodup.idxOf_getElem hnod j (by omega))
  show P.idxOf b < P.idxOf a
  omega
theorem KSt.stuck (hn : C.Nodup) {D : Str → Int} {P : List Str} (h : KSt C dp D [] P []) (hl : P.length ≠ C.length) : ¬ Ranked C dp ∧ ∃ x ∈ C, 0 < D x := by
  have hlt : P.length < C.length := by have := h.len; simp only [List.length_nil] at this; omega
  have hnodP : P.Nodup := by have := h.nod; simpa using this
  have hex : ∃ x ∈ C, x ∉ P := by
    rcases Classical.em (∃ x ∈ C, x ∉ P) with h1 | h1
    · exact h1
    · exfalso
      have h2 : ∀ x ∈ C, x ∈ P := fun x hx => Classical.byContradiction fun hp => h1 ⟨x, hx, hp⟩
      have := length_le_of_subset hn h2
      omega
  have hpos : ∀ x ∈ C, x ∉ P → 0 < D x ∧ ∃ b ∈ C, b ∉ P ∧ x ∈ dp b := by
    intro x hx hp
    have h0 : D x ≠ 0 := fun e => hp (by have := (h.zero x hx).1 e; simpa using this)
    have h1 := h.deg x hx
    simp only [List.count_nil, Nat.add_zero] at h1
    have h2 : indeg dp (rest C P) x ≠ 0 := fun e => h0 (by rw [h1, e]; rfl)
    refine ⟨by omega, ?_⟩
    refine Classical.byContradiction fun hno => h2 (indeg_zero.2 fun a ha hxa => hno ?_)
    exact ⟨a, (mem_rest.1 ha).1, (mem_rest.1 ha).2, hxa⟩
  refine ⟨fun ⟨rank, hr⟩ => ?_, ?_⟩
  · have key : ∀ n x, rank x < n → x ∈ C → x ∉ P → False := by
      intro n
      induction n with
      | zero => intro x h1; omega
      | succ n ih =>
        intro x h1 hx hp
        obtain ⟨b, hb, hbp, hxb⟩ := (hpos x hx hp).2
        exact ih b (by have := hr b hb x hxb hx; omega) hb hbp
    obtain ⟨x, hx, hp⟩ := hex
    exact key _ x (Nat.lt_succ_self _) hx hp
  · obtain ⟨x, hx, hp⟩ := hex
    exact ⟨x, hx, (hpos x hx hp).1⟩
end
end Go.Proofs.YtedgonoeeeiilaaGreatDoor
/- A queue: a slice of the call's own, of cells, that is cut at its head and appended to at its end. -/
namespace Go.Proofs.YtedgonoeeeiilaaGreatDoor
open Go.RowKit

/-- A queue's cells. -/
def QIs (w : World) (base : Nat) (E : TypeId) (v : Value) (xs : List Value) : Prop :=
  ∃ o c, v = .slice o xs.length c ∧ xs.length ≤ c ∧ c ≤ maxLen ∧ ((o = none ∧ c = 0) ∨ ∃ g off cur, o = some ⟨g, off, none⟩ ∧ base ≤ g ∧ w.heap[g]? = some (.cells cur E (0, 0)) ∧ off + c ≤ cur.size ∧ ∀ j u, xs[j]? = some u → cur[off + j]? = some u)
theorem QIs.nil (w : World) (base : Nat) (E : TypeId) : QIs w base E (.slice none 0 0) [] := ⟨none, 0, rfl, Nat.le_refl _, by simp, .inl ⟨rfl, rfl⟩⟩
theorem QIs.keep {w w' : World} {M : Nat → Prop} {base : Nat} {E : TypeId} {v : Value} {xs : List Value} (h : QIs w base E v xs) (k : Keep M w w') (hM : ∀ i, base ≤ i → ¬ M i) : QIs w' base E v xs := by
  obtain ⟨o, c, hv, h1, h2, h⟩ := h
  refine ⟨o, c, hv, h1, h2, ?_⟩
  rcases h with h | ⟨g, off, cur, ho, hg, hh, r⟩
  · exact .inl h
  · exact .inr ⟨g, off, cur, ho, hg, k.heap hh (hM g hg), r⟩
theorem add_off (g off j : Nat) : (⟨g, off, none⟩ : Addr).add j = ⟨g, off + j, none⟩ := by unfold Addr.add; split <;> simp_all
theorem QIs.cells {w : World} {base : Nat} {E : TypeId} {v : Value} {xs : List Value} (h : QIs w base E v xs) {g off n c : Nat} (hv : v = .slice (some ⟨g, off, none⟩) n c) : ∀ j u, xs[j]? = some u → w.cell? ⟨g, off + j, none⟩ = some u := by
  intro j u hu
  obtain ⟨o, c', hv', _, _, h⟩ := h
  rw [hv] at hv'
  simp only [Value.slice.injEq] at hv'
  obtain ⟨rfl, _, _⟩ := hv'
  rcases h with ⟨h, _⟩ | ⟨g', off', cur, ho, _, hh, _, hc⟩
  · cases h
  · simp only [Option.some.injEq, Addr.mk.injEq, and_true] at ho
    obtain ⟨rfl, rfl⟩ := ho
    rw [cell_cells hh]; exact hc j u hu
/-- The first cell is left. -/
theorem QIs.pop {w : World} {base : Nat} {E : TypeId} {x : Value} {xs : List Value} {o : Option Addr} {n c : Nat} (h : QIs w base E (.slice o n c) (x :: xs)) :
    ∃ g off, o = some ⟨g, off, none⟩ ∧ n = xs.length + 1 ∧ xs.length + 1 ≤ c ∧ c ≤ maxLen ∧ w.cell? ⟨g, off, none⟩ = some x ∧
      ∃ A, (if c = 1 then some (⟨g, off, none⟩ : Addr) else some ⟨g, off + 1, none⟩) = some A ∧ QIs w base E (.slice (some A) xs.length (c - 1)) xs := by
  have hh := h
  obtain ⟨o', c', hv, h1, h2, h⟩ := h
  simp only [Value.slice.injEq, List.length_cons] at hv
  obtain ⟨rfl, rfl, rfl⟩ := hv
  simp only [List.length_cons] at h1
  rcases h with ⟨_, h⟩ | ⟨g, off, cur, rfl, hg, hb, hs, hc⟩
  · omega
  · refine ⟨g, off, rfl, rfl, h1, h2, hh.cells rfl 0 x rfl, ?_⟩
    by_cases h3 : c = 1
    · have hx : xs = [] := List.eq_nil_of_length_eq_zero (by omega)
      exact ⟨_, if_pos h3, _, _, rfl, by omega, by omega, .inr ⟨g, off, cur, rfl, hg, hb, by omega, fun j u hu => by rw [hx] at hu; simp at hu⟩⟩
    · refine ⟨_, if_neg h3, _, _, rfl, by omega, by omega, .inr ⟨g, off + 1, cur, rfl, hg, hb, by omega, fun j u hu => ?_⟩⟩
      have := hc (j + 1) u (by simpa using hu)
      rw [show off + 1 + j = off + (j + 1) by omega]; exact this

theorem run_append_room_off {P : Program} (w : World) (t ty e : TypeId) (i : TypeInfo) (ht : P.underlying t = some (.slice e)) (hi : P.info? e = some i) (h1s : i.size = 1)
    (g off sLen sCap : Nat) (cur : Array Value) (hg : w.heap[g]? = some (.cells cur e (0, 0))) (a : Addr) (c : Nat) (u : Value) (hu : w.cell? a = some u) (h1 : u.oneCell' = true)
    (hroom : sLen + 1 ≤ sCap) (hfit : off + sLen + 1 ≤ cur.size) :
    (Builtin.append_ #[t, t] ty #[.slice (some ⟨g, off, none⟩) sLen sCap, .slice (some a) 1 c]).run P w =
      .ok (.slice (some ⟨g, off, none⟩) (sLen + 1) sCap) (w.setRow g (cur.toList.take (off + sLen) ++ [u] ++ cur.toList.drop (off + sLen + 1)).toArray) := by
  have ha0 : a.add 0 = a := by
    obtain ⟨b, o, sp⟩ := a
    unfold Addr.add; split <;> simp_all
  have hf := run_firstCells_some (P := P) w 1 1 a 1 c [u] rfl (fun j v hj => by
    rcases j with _ | j
    · simp only [List.getElem?_cons_zero, Option.some.injEq] at hj; subst hj; rw [ha0]; exact hu
    · simp at hj)
  have hst := run_storeCells_at P g (off + sLen) e [u] 0 cur w hg (by simpa using hfit) (by simpa using h1)
  simp only [Nat.add_zero, List.length_cons, List.length_nil, Nat.zero_add] at hst
  simp [Builtin.append_, run_underlying ht, sizeOf, typeInfo, hi, h1s, Builtin.lenOf, hroom, hf, add_off, hst]

theorem run_append_q {P : Program} (w : World) (t ty : TypeId) (base : Nat) (e : TypeId) (i : TypeInfo) (z : Value) (bytes : Nat) (ht : P.underlying t = some (.slice e)) (hi : P.info? e = some i) (hz : i.zero = some z)
    (hsize : i.size = 1) (hby : i.bytes = bytes) (hzs : z.cells.size = 1) (v : Value) (xs : List Value) (hq : QIs w base e v xs) (ad : Addr) (c : Nat) (u : Value) (hu : w.cell? ad = some u) (h1 : u.oneCell' = true)
    (h63 : xs.length + 1 ≤ maxLen) (hbytes : (xs.length + 1) * bytes ≤ 140737488355328) (hbase : base ≤ w.heap.size) :
    ∃ o c' w', (Builtin.append_ #[t, t] ty #[v, .slice (some ad) 1 c]).run P w = .ok (.slice o (xs.length + 1) c') w' ∧ QIs w' base e (.slice o (xs.length + 1) c') (xs ++ [u]) ∧ Keep (fun i => base ≤ i) w w' := by
  have hnews : ∀ j v, [u][j]? = some v → w.cell? (ad.add j) = some v := fun j v hj => by
    rcases j with _ | j
    · simp only [List.getElem?_cons_zero, Option.some.injEq] at hj
      subst hj
      have : ad.add 0 = ad := by
        obtain ⟨b, o, sp⟩ := ad
        unfold Addr.add; split <;> simp_all
      rw [this]; exact hu
    · simp at hj
  have hsmall : xs.length + 1 ≤ 9223372036854775807 := by simp only [maxLen] at h63; omega
  subst hby
  obtain ⟨o, cp, rfl, hlc, hcm, h⟩ := hq
  have made : ∀ old, (∃ cp', cp' = grownCap w (xs.length + 1) old e) → QIs (w.drew.alloc (.cells (xs.toArray ++ [u].toArray ++ Builtin.zeroCells z.cells (grownCap w (xs.length + 1) old e - (xs.length + 1))) e)) base e (.slice (some ⟨w.heap.size, 0, none⟩) (xs.length + 1) (grownCap w (xs.length + 1) old e)) (xs ++ [u]) ∧
      Keep (fun i => base ≤ i) w (w.drew.alloc (.cells (xs.toArray ++ [u].toArray ++ Builtin.zeroCells z.cells (grownCap w (xs.length + 1) old e - (xs.length + 1))) e)) := by
    intro old _
    have hge := grownCap_ge w (xs.length + 1) old e
    have hcm : grownCap w (xs.length + 1) old e ≤ maxLen := grownCap_le_maxLen w (xs.length + 1) old e h63
    refine ⟨⟨_, _, by simp, by simpa using hge, hcm, .inr ⟨w.heap.size, 0, _, rfl, hbase, heap_alloc_new w.drew _, ?_, fun j v hj => ?_⟩⟩, (Keep.drew w _).then (Keep.alloc _ _ _)⟩
    · simp only [Array.size_append, List.size_toArray, size_zeroCells, hzs, List.length_cons, List.length_nil]
      omega
    · rw [Nat.zero_add]
      have hj' : j < (xs ++ [u]).length := (List.getElem?_eq_some_iff.1 hj).1
      rw [Array.getElem?_append_left (by simpa using hj')]
      simpa using hj
  rcases h with ⟨rfl, rfl⟩ | ⟨g, off, cur, rfl, hbg, hg, hs, hc⟩
  · have hx : xs = [] := List.eq_nil_of_length_eq_zero (by omega)
    subst hx
    have hr := run_append_nil (P := P) w t ty e i z ht hi hz ad 1 c [u] (by rw [hsize]; rfl) hnews (by omega) (by omega) (by simp only [List.length_nil, Nat.zero_add] at hbytes; omega)
    have hgr := made 0 ⟨_, rfl⟩
    simp only [List.length_nil, Nat.zero_add, List.nil_append, Array.empty_append] at hgr ⊢
    exact ⟨_, _, _, hr, hgr.1, hgr.2⟩
  · by_cases hroom : xs.length + 1 ≤ cp
    · have hr := run_append_room_off (P := P) w t ty e i ht hi hsize g off xs.length cp cur hg ad c u hu h1 hroom (by omega)
      refine ⟨_, _, _, hr, ⟨_, _, by simp, by simpa using hroom, hcm, .inr ⟨g, off, _, rfl, hbg, setRow_heap w g cur _ e _ hg, ?_, fun j v hj => ?_⟩⟩, ?_⟩
      · simp only [List.size_toArray, List.length_append, List.length_take, List.length_drop, Array.length_toList, List.length_cons, List.length_nil]
        omega
      · have hj' : j < (xs ++ [u]).length := (List.getElem?_eq_some_iff.1 hj).1
        simp only [List.length_append, List.length_cons, List.length_nil] at hj'
        simp only [List.getElem?_toArray]
        rcases Nat.lt_or_ge j xs.length with h2 | h2
        · rw [List.getElem?_append_left h2] at hj
          have := hc j v hj
          rw [List.append_assoc, List.getElem?_append_left (by simp; omega), List.getElem?_take, if_pos (by omega)]
          simpa using this
        · have hj0 : j = xs.length := by omega
          subst hj0
          rw [List.getElem?_append_right (by omega)] at hj
          simp only [Nat.sub_self, List.getElem?_cons_zero, Option.some.injEq] at hj
          subst hj
          rw [List.append_assoc, List.getElem?_append_right (by simp; omega)]
          simp only [List.length_take, Array.length_toList]
          rw [show off + xs.length - min (off + xs.length) cur.size = 0 by omega]; rfl
      · exact Keep.grown (row := some g) ⟨rfl, rfl, rfl, by simp, fun k _ hk => setRow_other w g k _ (fun e => hk (by simp [e]))⟩ fun i hi _ => by cases hi; exact hbg
    · have holds : ∀ j v, xs[j]? = some v → w.cell? ((⟨g, off, none⟩ : Addr).add j) = some v := fun j v hj => by
        rw [add_off, cell_cells hg]; exact hc j v hj
      have hr := run_append_grow (P := P) w t ty e i z ht hi hz ⟨g, off, none⟩ xs.length cp xs (by rw [hsize]; omega) holds ad 1 c [u] (by rw [hsize]; rfl) hnews (by omega) (by omega) (growslice_fits (by omega) hbytes)
      have hgr := made cp ⟨_, rfl⟩
      exact ⟨_, _, _, hr, hgr.1, hgr.2⟩

theorem wpList_append_q {P : Program} {ops : Array Oper} {rest : List Oper} {o : Oper} {a : Act} {w : World} {Q : Exit → Act → World → Prop} (hgd : o.guard = none) (s x : Operand) (t : TypeId)
    (ho : o.op = .call { callee := .builtin .append, args := #[s, x], argTypes := #[t, t] })
    (base : Nat) (e : TypeId) (i : TypeInfo) (z : Value) (bytes : Nat) (ht : P.underlying t = some (.slice e)) (hi : P.info? e = some i) (hz : i.zero = some z)
    (hsize : i.size = 1) (hby : i.bytes = bytes) (hzs : z.cells.size = 1) (v : Value) (xs : List Value) (hs : a.eval s = v) (hq : QIs w base e v xs)
    (ad : Addr) (c : Nat) (u : Value) (hx : a.eval x = .slice (some ad) 1 c) (hu : w.cell? ad = some u) (h1 : u.oneCell' = true)
    (h63 : xs.length + 1 ≤ maxLen) (hbytes : (xs.length + 1) * bytes ≤ 140737488355328) (hbase : base ≤ w.heap.size)
    (h : ∀ o' c' w', QIs w' base e (.slice o' (xs.length + 1) c') (xs ++ [u]) → Keep (fun i => base ≤ i) w w' → wpList P ops Q rest (a.put o.dst (.slice o' (xs.length + 1) c')) w') : wpList P ops Q (o :: rest) a w :=
  wpList_plain hgd fun K hK => by
    obtain ⟨o', c', w', hr, h2, h3⟩ := run_append_q (P := P) w t o.type base e i z bytes ht hi hz hsize hby hzs v xs hq ad c u hu h1 h63 hbytes hbase
    unfold Oper.wp execOp
    simp only [ho, resolve, invoke, builtin, Sem.run_bind, Sem.run_pure, Result.andThen_ok, List.map_toArray, List.map_cons, List.map_nil, hs, hx, hr]
    exact hK _ _ (h o' c' w' h2 h3)
end Go.Proofs.YtedgonoeeeiilaaGreatDoor
/- Kahn's algorithm in memory: how its maps lie; no walk of the program. -/
namespace Go.Proofs.YtedgonoeeeiilaaGreatDoor
open Go.RowKit

theorem MapRel.back {κ α : Type} [DecidableEq κ] {R : α → Value → Prop} {l : List (κ × α)} {lv : List (κ × Value)} (h : MapRel R l lv) (hv : (lv.map (·.1)).Nodup) : (∀ k v, (k, v) ∈ lv → ∃ x, (k, x) ∈ l ∧ R x v) ∧ (lv.map (·.1)).Perm (l.map (·.1)) := by
  have h1 := subset_back h.nodup (b := lv.map (·.1)) (fun x hx => by
    obtain ⟨p, hp, rfl⟩ := List.mem_map.1 hx
    obtain ⟨v, hv, _⟩ := h.rel p.1 p.2 hp
    exact List.mem_map.2 ⟨_, hv, rfl⟩) (by simp [h.len])
  have h2 : ∀ k v, (k, v) ∈ lv → ∃ x, (k, x) ∈ l ∧ R x v := by
    intro k v hm
    obtain ⟨⟨k', x⟩, hx, rfl⟩ := List.mem_map.1 (h1 k (List.mem_map.2 ⟨_, hm, rfl⟩))
    obtain ⟨v', hv', hR⟩ := h.rel _ x hx
    exact ⟨x, hx, by rw [key_unique hv hm hv']; exact hR⟩
  refine ⟨h2, (List.perm_ext_iff_of_nodup hv h.nodup).2 fun k => ⟨h1 k, fun hk => ?_⟩⟩
  obtain ⟨p, hp, rfl⟩ := List.mem_map.1 hk
  obtain ⟨v, hv, _⟩ := h.rel p.1 p.2 hp
  exact List.mem_map.2 ⟨_, hv, rfl⟩

/-- an edge among common types -/
def Edge (V : Env) (n p : Str) : Prop := ∃ t r, kget V.C n = some t ∧ RefIn r t ∧ p = pathOf V (nsOf n) r ∧ p ∈ V.C.map (·.1)
/-- no circles -/
def Acyc (V : Env) : Prop := ∃ rank : Str → Nat, ∀ n p, Edge V n p → rank n < rank p

theorem refIn_size {w : World} {M : Nat → Prop} {t : ATy} {v : Value} (h : ATyIs w M t v) : ∀ y, RefIn y t → y.size ≤ 1000000 := by
  induction h with
  | str => intro y h; cases h
  | long => intro y h; cases h
  | bool => intro y h; cases h
  | ext s _ => intro y h; cases h
  | set _ ih => intro y h; cases h; exact ih y (by assumption)
  | record hm hM hn hl ha ht ih => intro y h; cases h; rename_i h2 h1; exact ih _ _ _ h1 y h2
  | ent s _ => intro y h; cases h
  | ref s hs => intro y h; cases h; exact hs

/-- A map of lists of names: the lists lie in no block of M. -/
def DMap (w : World) (M : Nat → Prop) (d : Nat) (C : List Str) (dp : Str → List Str) : Prop :=
  ∃ ld, KMap Value.string w d ld ∧ (∀ n, n ∉ ld.map (·.1) → dp n = []) ∧ ∀ n v, (n, v) ∈ ld → n ∈ C ∧ StrsAt w M (dp n) v
theorem DMap.keep {w w' : World} {M M' M2 : Nat → Prop} {d : Nat} {C : List Str} {dp : Str → List Str} (h : DMap w M d C dp) (hk : Keep M2 w w') (hd : ¬ M2 d) (h2 : ∀ i, i < w.heap.size → M2 i → M i) (h3 : ∀ i, i < w.heap.size → M' i → M i) : DMap w' M' d C dp := by
  obtain ⟨ld, h1, h4, h5⟩ := h
  exact ⟨ld, h1.keep hk hd, h4, fun n v hv => ⟨(h5 n v hv).1, StrsAt.keep.k hk h2 h3 (h5 n v hv).2⟩⟩

/-- A map of numbers, one for each name of C. -/
def IMap (w : World) (g : Nat) (C : List Str) (D : Str → Int) : Prop :=
  ∃ lg, KMap Value.string w g lg ∧ (lg.map (·.1)).Perm C ∧ ∀ x v, (x, v) ∈ lg → v = .int .i64 (D x)
theorem IMap.keep {w w' : World} {M : Nat → Prop} {g : Nat} {C : List Str} {D : Str → Int} (h : IMap w g C D) (hk : Keep M w w') (hg : ¬ M g) : IMap w' g C D := by
  obtain ⟨lg, h1, h2, h3⟩ := h
  exact ⟨lg, h1.keep hk hg, h2, h3⟩
theorem zeroInt (w : World) : (zeroValue 3).run Tryz.prog w = .ok (.int .i64 0) w := by kernel_rfl
theorem IMap.lookup {w : World} {g : Nat} {C : List Str} {D : Str → Int} (h : IMap w g C D) {x : Str} (hx : x ∈ C) :
    (Instr.lookup 260 (.map (some g)) (.string x) false).run Tryz.prog w = .ok (.int .i64 (D x)) w := by
  obtain ⟨lg, h1, h2, h3⟩ := h
  rw [h1.lookup (strKey Tryz.underlying141) Tryz.underlying260 (zeroInt w) x false]
  obtain ⟨⟨y, v⟩, hp, rfl⟩ := List.mem_map.1 (h2.mem_iff.2 hx)
  rw [kget_mem h1.nodup hp, h3 _ _ hp]; rfl
theorem mem_kput {α : Type} {l : List (Str × α)} (hn : (l.map (·.1)).Nodup) {k x : Str} {v u : α} (h : (x, u) ∈ kput l k v) : (x = k ∧ u = v) ∨ (x ≠ k ∧ (x, u) ∈ l) := by
  have h1 := kget_mem (kput_nodup hn k v) h
  rw [kget_kput] at h1
  by_cases e : k = x
  · rw [if_pos e] at h1; exact .inl ⟨e.symm, by simpa using h1.symm⟩
  · rw [if_neg e] at h1; exact .inr ⟨fun q => e q.symm, kget_some h1⟩
theorem IMap.update {w : World} {g : Nat} {C : List Str} {D : Str → Int} (h : IMap w g C D) {x : Str} (hx : x ∈ C) (z : Int) {D' : Str → Int} (hD : ∀ y, D' y = if y = x then z else D y) :
    ∃ o, (Instr.mapUpdate 260 (.map (some g)) (.string x) (.int .i64 z)).run Tryz.prog w = .ok () (ChangeMaps.setBlock w g o) ∧ IMap (ChangeMaps.setBlock w g o) g C D' := by
  obtain ⟨lg, h1, h2, h3⟩ := h
  obtain ⟨o, hr, hm⟩ := h1.update (strKey Tryz.underlying141) Tryz.underlying260 x (.int .i64 z)
  refine ⟨o, hr, _, hm, ?_, fun y v hy => ?_⟩
  · rw [kput_keys]
    have : lg.any (fun p => decide (p.1 = x)) = true := by
      rw [List.any_eq_true]
      obtain ⟨p, hp, e⟩ := List.mem_map.1 (h2.mem_iff.2 hx)
      exact ⟨p, hp, by simpa using e⟩
    rw [if_pos this]; exact h2
  · rw [hD]
    rcases mem_kput h1.nodup hy with ⟨rfl, rfl⟩ | ⟨e, hy⟩
    · rw [if_pos rfl]
    · rw [if_neg e]; exact h3 _ _ hy
theorem IMap.insert {w : World} {g : Nat} {C : List Str} {D : Str → Int} (h : IMap w g C D) {x : Str} (hx : x ∉ C) (hD : D x = 0) :
    ∃ o, (Instr.mapUpdate 260 (.map (some g)) (.string x) (.int .i64 0)).run Tryz.prog w = .ok () (ChangeMaps.setBlock w g o) ∧ IMap (ChangeMaps.setBlock w g o) g (x :: C) D := by
  obtain ⟨lg, h1, h2, h3⟩ := h
  obtain ⟨o, hr, hm⟩ := h1.update (strKey Tryz.underlying141) Tryz.underlying260 x (.int .i64 0)
  have hf : ∀ p ∈ lg, p.1 ≠ x := fun p hp e => hx (h2.mem_iff.1 (List.mem_map.2 ⟨p, hp, e⟩))
  rw [kput_fresh _ hf] at hm
  refine ⟨o, hr, _, hm, ?_, fun y v hy => ?_⟩
  · rw [List.map_append]
    exact (List.perm_append_comm).trans (List.Perm.cons x h2)
  · rcases List.mem_append.1 hy with hy | hy
    · exact h3 _ _ hy
    · simp only [List.mem_singleton, Prod.mk.injEq] at hy
      rw [hy.2, hy.1, hD]
theorem IMap.perm {w : World} {g : Nat} {C C' : List Str} {D D' : Str → Int} (h : IMap w g C D) (hp : C.Perm C') (hD : ∀ x ∈ C', D' x = D x) : IMap w g C' D' := by
  obtain ⟨lg, h1, h2, h3⟩ := h
  refine ⟨lg, h1, h2.trans hp, fun x v hv => ?_⟩
  rw [hD x ((h2.trans hp).mem_iff.1 (List.mem_map.2 ⟨_, hv, rfl⟩))]
  exact h3 x v hv
theorem IMap.nodup {w : World} {g : Nat} {C : List Str} {D : Str → Int} (h : IMap w g C D) : C.Nodup := by
  obtain ⟨lg, h1, h2, _⟩ := h
  exact h2.nodup_iff.1 h1.nodup

/-! ### sums -/
theorem indeg_cons (dp : Str → List Str) (a : Str) (l : List Str) (x : Str) : indeg dp (a :: l) x = (dp a).count x + indeg dp l x := by
  unfold indeg; simp
theorem indeg_append (dp : Str → List Str) (l l' : List Str) (x : Str) : indeg dp (l ++ l') x = indeg dp l x + indeg dp l' x := by
  unfold indeg; simp
theorem indeg_le (dp : Str → List Str) (B : Nat) (x : Str) : ∀ l : List Str, (∀ a ∈ l, (dp a).length ≤ B) → indeg dp l x ≤ l.length * B
  | [], _ => by simp [indeg]
  | a :: l, h => by
    have h1 := indeg_le dp B x l fun b hb => h b (.tail _ hb)
    have h2 := h a (.head _)
    have h3 := List.count_le_length (a := x) (l := dp a)
    rw [indeg_cons, List.length_cons, Nat.add_mul]
    omega
/-- Those without lists count nothing. -/
theorem indeg_sub {dp : Str → List Str} {C K : List Str} (hC : C.Nodup) (hK : K.Nodup) (hs : ∀ a ∈ K, a ∈ C) (h0 : ∀ a, a ∉ K → dp a = []) (x : Str) : indeg dp C x = indeg dp K x := by
  have hp : C.Perm (K ++ C.filter fun a => decide (a ∉ K)) := by
    refine (List.perm_ext_iff_of_nodup hC (List.nodup_append.2 ⟨hK, hC.filter _, fun a ha b hb e => ?_⟩)).2 fun a => ?_
    · subst e
      rw [List.mem_filter, decide_eq_true_eq] at hb
      exact hb.2 ha
    · rw [List.mem_append, List.mem_filter, decide_eq_true_eq]
      constructor
      · intro h
        by_cases hk : a ∈ K
        · exact .inl hk
        · exact .inr ⟨h, hk⟩
      · rintro (h | h)
        · exact hs a h
        · exact h.1
  rw [indeg_perm hp, indeg_append]
  have : indeg dp (C.filter fun a => decide (a ∉ K)) x = 0 := by
    rw [indeg_zero]
    intro a ha
    rw [List.mem_filter, decide_eq_true_eq] at ha
    rw [h0 a ha.2]; simp
  omega
end Go.Proofs.YtedgonoeeeiilaaGreatDoor
