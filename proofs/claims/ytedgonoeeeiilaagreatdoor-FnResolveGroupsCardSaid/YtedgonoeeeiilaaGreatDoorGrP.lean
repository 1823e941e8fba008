/- FnResolveGroups, the plain law: actions of which each one has the next one as its group. -/
import Derived.Test.YtedgonoeeeiilaaGreatDoorPl
import Derived.Test.YtedgonoeeeiilaaGreatDoorDig
namespace Go.Proofs.YtedgonoeeeiilaaGreatDoor
open Go.RowKit

/-! ### names -/
/-- "a" and three digits -/
def gN (k : Nat) : Str := ⟨#[97, dg (k / 100), dg (k / 10), dg k]⟩
theorem gN_eq {k : Nat} (h : k < 1000) : (⟨#[97]⟩ : Str) ++ digS k 3 = gN k := by
  unfold gN digS
  rw [dig_step (by omega), dig_step (n := k / 10) (by omega), dig_step (n := k / 10 / 10) (by omega), show k / 10 / 10 / 10 = 0 by omega, show k / 10 / 10 = k / 100 by omega, dig, dif_pos ⟨rfl, rfl⟩]; rfl
theorem gN_inj : ∀ i < 50, ∀ j < 50, gN i = gN j → i = j := by decide +kernel
theorem gN_lt : ∀ i < 50, ∀ j < 50, i < j → ltS (gN j) (gN i) = false := by decide +kernel
theorem gN_size : ∀ i < 51, (gN i).size ≤ 4 := by decide +kernel

/-! ### the data -/
section
variable (s : Str) (n : Nat) (tg : Option Nat)
def gPar (k : Nat) : List Uid := if k + 1 < n then [(⟨#[]⟩, gN (k + 1))] else match tg with
  | none => []
  | some b => [(⟨#[]⟩, gN b)]
def gA (j : Nat) : List (Str × AAct) := (List.range j).map fun k => (gN k, ⟨gPar n tg k, none⟩)
def gL : List ISp := [⟨s, [], [], [], gA n tg n⟩]
def gD : Str → SpD := fun _ => spOf [] [] [] (gA n tg n)
/-- what the k-th one is called -/
def gU (k : Nat) : Uid := actU s (gN k)
def gR (k : Nat) : RAct := ⟨gU s k, (gPar n tg k).map (parOf s), none⟩
def gB : SpD := bareSp (gL s n tg)
def gS : List Str := namedSp (gL s n tg)
theorem gr_bare : gB s n tg = if s = ⟨#[]⟩ then spOf [] [] [] (gA n tg n) else spOf [] [] [] [] := rfl
theorem gr_named : gS s n tg = if s = ⟨#[]⟩ then [] else [s] := by
  unfold gS namedSp gL
  by_cases h : s = ⟨#[]⟩ <;> simp [h]
variable {s : Str} {n : Nat} {tg : Option Nat}
theorem gr_en : (gB s n tg).en = [] ∧ (gB s n tg).nn = [] ∧ (gB s n tg).cn = [] := by
  rw [gr_bare]; split <;> exact ⟨rfl, rfl, rfl⟩
theorem gA_nodup (hn : n ≤ 50) (j : Nat) (hj : j ≤ 50) : ((gA n tg j).map (·.1)).Nodup := by
  unfold gA
  rw [List.map_map]
  refine List.pairwise_map.2 (List.Pairwise.imp_of_mem (fun {a b} ha hb h e => ?_) (List.nodup_range (n := j)))
  exact h (gN_inj a (by have := List.mem_range.1 ha; omega) b (by have := List.mem_range.1 hb; omega) e)
theorem gA_keys (j : Nat) : (gA n tg j).map (·.1) = (List.range j).map gN := by
  unfold gA; rw [List.map_map]; rfl
theorem gA_AA (hn : n ≤ 50) {k : Nat} (hk : k < n) : (spOf [] [] [] (gA n tg n)).AA (gN k) = ⟨gPar n tg k, none⟩ := by
  show (kget (gA n tg n) (gN k)).getD _ = _
  rw [kget_mem (gA_nodup hn n hn) (show (gN k, (⟨gPar n tg k, none⟩ : AAct)) ∈ gA n tg n from List.mem_map.2 ⟨k, List.mem_range.2 hk, rfl⟩)]
  rfl
theorem gr_resAct (V : Env) (f k : Nat) : resAct V f s (gN k) ⟨gPar n tg k, none⟩ = some (some (gR s n tg k)) := rfl
theorem gr_acts (hn : n ≤ 50) {V : Env} {f : Nat} (x : Uid) (y : RAct) : ActsOf V f (gB s n tg) (gD n tg) (· ∈ gS s n tg) x y ↔ ∃ k, k < n ∧ x = gU s k ∧ y = gR s n tg k := by
  have hof : ∀ k, k < n → RActOf V f s (gN k) ((spOf [] [] [] (gA n tg n)).AA (gN k)) = gR s n tg k := fun k hk => by
    rw [gA_AA hn hk]; rfl
  have han : (spOf [] [] [] (gA n tg n)).an = (List.range n).map gN := gA_keys n
  unfold ActsOf
  rw [gr_bare, gr_named]
  by_cases h : s = ⟨#[]⟩
  · rw [if_pos h, if_pos h]
    constructor
    · rintro (⟨m, hm, h1, h2⟩ | ⟨t, ht, _⟩)
      · rw [han] at hm
        obtain ⟨k, hk, rfl⟩ := List.mem_map.1 hm
        have hk' := List.mem_range.1 hk
        refine ⟨k, hk', by rw [h1, h]; rfl, ?_⟩
        rw [h2, ← h]; exact hof k hk'
      · simp at ht
    · rintro ⟨k, hk, rfl, rfl⟩
      refine .inl ⟨gN k, by rw [han]; exact List.mem_map.2 ⟨k, List.mem_range.2 hk, rfl⟩, by rw [h]; rfl, ?_⟩
      have := hof k hk
      rw [h] at this ⊢
      exact this.symm
  · rw [if_neg h, if_neg h]
    constructor
    · rintro (⟨m, hm, _⟩ | ⟨t, ht, m, hm, h1, h2⟩)
      · simp [spOf] at hm
      · simp only [List.mem_singleton] at ht
        subst ht
        have hm' : m ∈ (spOf [] [] [] (gA n tg n)).an := hm
        rw [han] at hm'
        obtain ⟨k, hk, rfl⟩ := List.mem_map.1 hm'
        have hk' := List.mem_range.1 hk
        exact ⟨k, hk', h1, by rw [h2]; exact hof k hk'⟩
    · rintro ⟨k, hk, rfl, rfl⟩
      exact .inr ⟨s, by simp, gN k, by show gN k ∈ (spOf [] [] [] (gA n tg n)).an; rw [han]; exact List.mem_map.2 ⟨k, List.mem_range.2 hk, rfl⟩, rfl, (hof k hk).symm⟩
theorem gU_inj {i j : Nat} (hi : i < 50) (hj : j < 50) (h : gU s i = gU s j) : i = j := gN_inj i hi j hj (actU_inj h)
theorem gr_names {S : Str} (hs : S ∈ gS s n tg) : S = s := by
  rw [gr_named] at hs
  split at hs <;> simp at hs
  exact hs
theorem gr_ents {V : Env} {f : Nat} {x : Str} {y : REnt} : ¬ EntsOf V f (gB s n tg) (gD n tg) (· ∈ gS s n tg) x y := by
  rintro (⟨m, hm, _⟩ | ⟨t, _, m, hm, _⟩)
  · rw [gr_en.1] at hm; simp at hm
  · simp [gD, spOf] at hm
theorem gr_enums {x : Str} {y : Str × List Str} : ¬ EnumsOf (gB s n tg) (gD n tg) (· ∈ gS s n tg) x y := by
  rintro (⟨m, hm, _⟩ | ⟨t, _, m, hm, _⟩)
  · rw [gr_en.2.1] at hm; simp at hm
  · simp [gD, spOf] at hm
theorem gr_wrong : ¬ Wrong (gB s n tg) (gD n tg) (gS s n tg) := by
  unfold Wrong
  rintro (⟨m, h, _⟩ | ⟨t, ht, m, h, _⟩ | ⟨t, ht, h⟩)
  · rw [gr_en.1] at h; simp at h
  · simp [gD, spOf] at h
  · obtain rfl := gr_names ht
    rw [gr_named] at ht
    rcases h with ⟨x, h1, _⟩ | ⟨x, _, h2⟩
    · simp [gD, spOf, SpD.names] at h1
    · rw [gr_bare] at h2
      by_cases h : t = ⟨#[]⟩
      · rw [if_pos h] at ht; simp at ht
      · rw [if_neg h] at h2; simp [spOf] at h2
theorem gr_an {m : Str} (hm : m ∈ (gB s n tg).an) : s = ⟨#[]⟩ ∧ ∃ k, k < n ∧ m = gN k := by
  rw [gr_bare] at hm
  by_cases h : s = ⟨#[]⟩
  · rw [if_pos h] at hm
    have hm' : m ∈ (gA n tg n).map (·.1) := hm
    rw [gA_keys] at hm'
    obtain ⟨k, hk, rfl⟩ := List.mem_map.1 hm'
    exact ⟨h, k, List.mem_range.1 hk, rfl⟩
  · rw [if_neg h] at hm; simp [spOf] at hm
theorem gr_anD {t m : Str} (hm : m ∈ (gD n tg t).an) : ∃ k, k < n ∧ m = gN k := by
  have hm' : m ∈ (gA n tg n).map (·.1) := hm
  rw [gA_keys] at hm'
  obtain ⟨k, hk, rfl⟩ := List.mem_map.1 hm'
  exact ⟨k, List.mem_range.1 hk, rfl⟩
theorem gr_actB (hn : n ≤ 50) (V : Env) (f : Nat) {m : Str} (hm : m ∈ (gB s n tg).an) : ∃ x, resAct V f ⟨#[]⟩ m ((gB s n tg).AA m) = some (some x) := by
  obtain ⟨h, k, hk, rfl⟩ := gr_an hm
  rw [gr_bare, if_pos h, gA_AA hn hk]
  exact ⟨_, rfl⟩
theorem gr_actD (hn : n ≤ 50) (V : Env) (f : Nat) {t m : Str} (hm : m ∈ (gD n tg t).an) : ∃ x, resAct V f t m ((gD n tg t).AA m) = some (some x) := by
  obtain ⟨k, hk, rfl⟩ := gr_anD hm
  show ∃ x, resAct V f t (gN k) ((spOf [] [] [] (gA n tg n)).AA (gN k)) = _
  rw [gA_AA hn hk]
  exact ⟨_, rfl⟩
theorem gr_acyc {V : Env} (h : EnvIs (gB s n tg) (gD n tg) (· ∈ gS s n tg) V) : Acyc V :=
  acyc_none (h.noC gr_en.2.2 fun _ _ => rfl)
theorem gPar_len (k : Nat) : (gPar n tg k).length ≤ 1 := by
  unfold gPar
  split
  · simp
  · cases tg <;> simp
theorem gr_ok (hn : n ≤ 50) : ResOk (gL s n tg) (gD n tg) 1 := by
  refine ⟨ComOk.none (gr_en (s := s) (n := n) (tg := tg)).2.2 fun _ _ => rfl, fun V hV _ => ⟨fun m hm => ?_, fun t ht m hm => ?_, fun m hm => ?_, fun t ht m hm => ?_⟩, fun V hV _ x y h => (gr_ents h).elim, ⟨[], by simp, fun m hm => by simp at hm, fun V hV _ x y h => (gr_ents h).elim⟩, ⟨[], by simp, fun m hm => by simp at hm, fun x y h => (gr_enums h).elim⟩, fun V hV _ x y h => ?_, ⟨(List.range n).map (gU s), by simp; omega, fun V hV _ x y h => ?_⟩⟩
  · have hm' : m ∈ (gB s n tg).en := hm
    rw [gr_en.1] at hm'; simp at hm'
  · simp [gD, spOf] at hm
  · obtain ⟨x, hx⟩ := gr_actB hn V 1 hm; exact ⟨_, hx⟩
  · obtain ⟨x, hx⟩ := gr_actD hn V 1 hm; exact ⟨_, hx⟩
  · obtain ⟨k, hk, rfl, rfl⟩ := (gr_acts hn x y).1 h
    refine ⟨?_, fun x hx => by cases hx⟩
    have := gPar_len (n := n) (tg := tg) k
    show ((gPar n tg k).map (parOf s)).length ≤ _
    rw [List.length_map]; omega
  · obtain ⟨k, hk, rfl, rfl⟩ := (gr_acts hn x y).1 h
    exact List.mem_map.2 ⟨k, List.mem_range.2 hk, rfl⟩

/-! ### groups -/
theorem gr_get (hn : n ≤ 50) {V : Env} {f : Nat} {RA : List (Uid × RAct)} (h : ActsAre (gB s n tg) (gD n tg) (· ∈ gS s n tg) V f RA) {k : Nat} (hk : k < n) : kget RA (gU s k) = some (gR s n tg k) := by
  have h1 := h.made.has _ _ ((gr_acts hn _ _).2 ⟨k, hk, rfl, rfl⟩)
  obtain ⟨y, hy⟩ := Option.isSome_iff_exists.1 h1
  obtain ⟨j, hj, e1, e2⟩ := (gr_acts hn _ _).1 (h.made.back _ _ hy)
  obtain rfl := gU_inj (by omega) (by omega) e1
  rw [hy, e2]
theorem gr_par (hn : n ≤ 50) {V : Env} {f : Nat} {RA : List (Uid × RAct)} (h : ActsAre (gB s n tg) (gD n tg) (· ∈ gS s n tg) V f RA) {k : Nat} (hk : k < n) : parU RA (gU s k) = (gPar n tg k).map (parOf s) := by
  unfold parU; rw [gr_get hn h hk]; rfl
theorem parOf_nil (x : Str) : parOf s (⟨#[]⟩, x) = actU s x := if_pos rfl
theorem gr_good (hn : n ≤ 50) {V : Env} {f : Nat} {RA : List (Uid × RAct)} (h : ActsAre (gB s n none) (gD n none) (· ∈ gS s n none) V f RA) : ¬ BadMem RA := by
  have hp : ∀ k, k < n → ∀ p ∈ parU RA (gU s k), k + 1 < n ∧ p = gU s (k + 1) := fun k hk p hp => by
    rw [gr_par hn h hk] at hp
    unfold gPar at hp
    split at hp
    · rename_i h1
      simp only [List.map_cons, List.map_nil, List.mem_singleton] at hp
      exact ⟨h1, by rw [hp, parOf_nil]; rfl⟩
    · simp at hp
  rintro (⟨u, a, hu, p, hpa, hn2⟩ | ⟨x, hx⟩)
  · obtain ⟨k, hk, rfl, rfl⟩ := (gr_acts hn _ _).1 (h.made.back _ _ hu)
    have h1 : p ∈ parU RA (gU s k) := by rw [gr_par hn h hk]; exact hpa
    obtain ⟨h2, rfl⟩ := hp k hk p h1
    rw [gr_get hn h h2] at hn2
    cases hn2
  · have hacc : ∀ d k, k < n → n - k = d → Acc (Up (parU RA)) (gU s k) := by
      intro d
      induction d with
      | zero => intro k hk e; omega
      | succ d ih =>
        intro k hk e
        refine ⟨_, fun p hpp => ?_⟩
        obtain ⟨h2, rfl⟩ := hp k hk p hpp
        exact ih (k + 1) h2 (by omega)
    refine hx ?_
    cases hg : kget RA x with
    | none =>
      refine ⟨_, fun p hpp => ?_⟩
      have : p ∈ parU RA x := hpp
      unfold parU at this
      rw [hg] at this
      simp at this
    | some y =>
      obtain ⟨k, hk, rfl, rfl⟩ := (gr_acts hn _ _).1 (h.made.back _ _ hg)
      exact hacc _ k hk rfl
theorem gr_bad (hn : n ≤ 50) {b : Nat} (hb : b < n) {V : Env} {f : Nat} {RA : List (Uid × RAct)} (h : ActsAre (gB s n (some b)) (gD n (some b)) (· ∈ gS s n (some b)) V f RA) : BadMem RA := by
  refine .inr ⟨gU s b, fun hacc => ?_⟩
  refine no_acc (par := parU RA) (C := (List.range n).map (gU s)) (fun c hc => ?_) _ hacc (List.mem_map.2 ⟨b, List.mem_range.2 hb, rfl⟩)
  obtain ⟨k, hk, rfl⟩ := List.mem_map.1 hc
  have hk' := List.mem_range.1 hk
  rw [gr_par hn h hk']
  unfold gPar
  by_cases h1 : k + 1 < n
  · rw [if_pos h1]
    exact ⟨gU s (k + 1), List.mem_map.2 ⟨_, List.mem_range.2 h1, rfl⟩, by simp only [List.map_cons, List.map_nil, List.mem_singleton]; rw [parOf_nil]; rfl⟩
  · rw [if_neg h1]
    exact ⟨gU s b, List.mem_map.2 ⟨_, List.mem_range.2 hb, rfl⟩, by simp only [List.map_cons, List.map_nil, List.mem_singleton]; rw [parOf_nil]; rfl⟩

/-! ### what comes back -/
theorem gr_unres (hn : n ≤ 50) {V : Env} {f : Nat} : ¬ Unres (gB s n tg) (gD n tg) (gS s n tg) V f := by
  rintro (⟨m, hm, _⟩ | ⟨t, _, m, hm, _⟩ | ⟨m, hm, h⟩ | ⟨t, _, m, hm, h⟩)
  · rw [gr_en.1] at hm; simp at hm
  · simp [gD, spOf] at hm
  · obtain ⟨x, hx⟩ := gr_actB hn V f hm
    rw [hx] at h; cases h
  · obtain ⟨x, hx⟩ := gr_actD hn V f hm
    rw [hx] at h; cases h
theorem gr_postS (hn : n ≤ 50) {b : Nat} (hb : b < n) {w w' : World} {e : Ending} (h : ImplPost (gL s n (some b)) (gD n (some b)) 1 w e w') :
    e = .returned (.tuple #[.agg #[.slice none 0 0, .slice none 0 0, .slice none 0 0], .bool false, .bool false]) ∧ Keep NoB w w' := by
  rcases h with ⟨he, _, hk⟩ | ⟨_, V, hV, hac, _, _, _, _, ⟨RA, hRA, hgood⟩, _⟩
  · exact ⟨he, hk⟩
  · exact (hgood (gr_bad hn hb hRA)).elim
theorem gr_postN (hn : n ≤ 50) {w w' : World} {e : Ending} (h : ImplPost (gL s n none) (gD n none) 1 w e w') :
    ∃ (lA : List (Uid × OAct)) (sE sN sA : Sl), e = .returned (.tuple #[.agg #[slV sE, slV sN, slV sA], .bool true, .bool false]) ∧ RowAt ActC 7 w' (· < w.heap.size) lA sA ∧ lA.length = n ∧
      (∀ k u a, lA[k]? = some (u, a) → u = gU s k ∧ a.parents = if k + 1 < n then [gU s (k + 1)] else []) ∧ Keep NoB w w' := by
  rcases h with ⟨_, hbad, _⟩ | ⟨_, V, hV, _, _, _, _, _, _, lE, lN, lA, sE, sN, sA, he, _, _, hrow, _, _, ⟨hord, hnod⟩, _, _, _, _, hfrom, hto, hk⟩
  · exfalso
    rcases hbad with hbad | ⟨V, hV, hbad⟩
    · exact gr_wrong hbad
    · rcases (hbad.resolve_left (fun q => q (gr_acyc hV))).2 with h1 | ⟨RA, h1, h2⟩
      · exact gr_unres hn h1
      · exact gr_good hn h1 h2
  · have hkeys : lA.map (·.1) = (List.range n).map (gU s) := by
      refine List.Perm.eq_of_pairwise (le := fun x y => ¬ ltU y x) (fun _ _ _ _ h1 h2 => ltU_total h1 h2) hord ?_ ?_
      · refine List.pairwise_map.2 (List.Pairwise.imp_of_mem (fun {a b} ha hb h => ?_) (List.pairwise_lt_range (n := n)))
        have ha' := List.mem_range.1 ha
        have hb' := List.mem_range.1 hb
        have := gN_lt a (by omega) b (by omega) h
        rintro (q | ⟨_, q⟩)
        · exact ltS_irrefl _ q
        · have q' : ltS (gN b) (gN a) = true := q
          rw [this] at q'; cases q'
      · refine (List.perm_ext_iff_of_nodup hnod ?_).2 fun u => ⟨fun hu => ?_, fun hu => ?_⟩
        · refine List.pairwise_map.2 (List.Pairwise.imp_of_mem (fun {a b} ha hb h e => ?_) (List.nodup_range (n := n)))
          exact h (gU_inj (by have := List.mem_range.1 ha; omega) (by have := List.mem_range.1 hb; omega) e)
        · obtain ⟨p, hp, rfl⟩ := List.mem_map.1 hu
          obtain ⟨y, hy, _⟩ := hfrom p hp
          obtain ⟨k, hk, e, _⟩ := (gr_acts hn _ _).1 hy
          exact List.mem_map.2 ⟨k, List.mem_range.2 hk, e.symm⟩
        · obtain ⟨k, hk, rfl⟩ := List.mem_map.1 hu
          exact hto _ _ ((gr_acts hn _ _).2 ⟨k, List.mem_range.1 hk, rfl, rfl⟩)
    have hlen : lA.length = n := by
      have := congrArg List.length hkeys
      simpa using this
    refine ⟨lA, sE, sN, sA, he, hrow, hlen, fun k u a hka => ?_, hk⟩
    obtain ⟨hkl, hka'⟩ := List.getElem?_eq_some_iff.1 hka
    have hkn : k < n := by omega
    have hu : u = gU s k := by
      have h1 : (lA.map (·.1))[k]? = some u := by rw [List.getElem?_map, hka]; rfl
      rw [hkeys, List.getElem?_map, List.getElem?_range hkn] at h1
      exact (Option.some.inj h1).symm
    refine ⟨hu, ?_⟩
    obtain ⟨y, hy, hm1, hm2, hm3, _⟩ := hfrom (u, a) (List.mem_of_getElem? hka)
    obtain ⟨j, hj, e1, rfl⟩ := (gr_acts hn _ _).1 hy
    have e1' : u = gU s j := e1
    rw [hu] at e1'
    obtain rfl := gU_inj (by omega) (by omega) e1'
    have hm1' : ∀ v, v ∈ a.parents ↔ v ∈ (gPar n none k).map (parOf s) := hm1
    unfold gPar at hm1'
    by_cases h1 : k + 1 < n
    · rw [if_pos h1] at hm1' ⊢
      simp only [List.map_cons, List.map_nil, List.mem_singleton, parOf_nil] at hm1'
      match hq : a.parents, hm1', hm3 with
      | [], hm1', _ => exact absurd ((hm1' (actU s (gN (k + 1)))).2 rfl) (by simp)
      | [p], hm1', _ => rw [(hm1' p).1 (by simp)]; rfl
      | p :: q :: r, hm1', hm3 =>
        have e2 := (hm1' p).1 (by simp)
        have e3 := (hm1' q).1 (by simp)
        have hm3' : (p :: q :: r).Nodup := hm3
        rw [e2, e3] at hm3'
        simp at hm3'
    · rw [if_neg h1] at hm1' ⊢
      match hq : a.parents, hm1' with
      | [], _ => rfl
      | p :: r, hm1' => exact absurd ((hm1' p).1 (by simp)) (by simp)
end
end Go.Proofs.YtedgonoeeeiilaaGreatDoor
