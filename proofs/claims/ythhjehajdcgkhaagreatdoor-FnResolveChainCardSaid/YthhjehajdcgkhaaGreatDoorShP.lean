/- FnResolveShadow, the plain law: what the two declarations are resolved to. -/
import Derived.Test.YthhjehajdcgkhaaGreatDoorRes
import Derived.Test.YthhjehajdcgkhaaGreatDoorDig
namespace Go.Proofs.YthhjehajdcgkhaaGreatDoor
open Go.RowKit

/-! ### names -/
theorem dig_mem (n w : Nat) : ∀ c ∈ dig n w, 48 ≤ c.toNat ∧ c.toNat ≤ 57 := by
  induction n, w using dig.induct with
  | case1 n w h => intro c hc; rw [dig, dif_pos h] at hc; simp at hc
  | case2 n w h ih =>
    intro c hc
    rw [dig_step h] at hc
    rcases List.mem_append.1 hc with hc | hc
    · exact ih c hc
    · simp only [List.mem_singleton] at hc
      rw [hc, dg_toNat]; omega
theorem dig_len (n w : Nat) : (dig n w).length ≤ n + w := by
  induction n, w using dig.induct with
  | case1 n w h => rw [dig, dif_pos h]; simp
  | case2 n w h ih =>
    rw [dig_step h, List.length_append, List.length_singleton]
    rcases Nat.eq_zero_or_pos n with h0 | h0
    · have : w ≠ 0 := fun e => h ⟨h0, e⟩
      subst h0
      simp at ih ⊢
      omega
    · have : n / 10 < n := Nat.div_lt_self h0 (by omega)
      omega
/-- "E" and digits -/
def eN (k : Nat) : Str := ⟨#[69]⟩ ++ digS k 1
theorem eN_list (k : Nat) : (eN k).data.toList = 69 :: dig k 1 := by
  unfold eN digS
  rw [ByteArray.data_append]
  simp
theorem eN_size (k : Nat) : (eN k).size ≤ k + 2 := by
  have h1 : (eN k).size = (eN k).data.toList.length := by rw [Array.length_toList]; rfl
  rw [h1, eN_list, List.length_cons]
  have := dig_len k 1
  omega
/-- no colon -/
def NC (s : Str) : Prop := (58 : UInt8) ∉ s.data.toList
theorem eN_nc (k : Nat) : NC (eN k) := by
  unfold NC
  rw [eN_list]
  intro h
  rcases List.mem_cons.1 h with h | h
  · cases h
  · have := dig_mem k 1 _ h
    have h58 : (58 : UInt8).toNat = 58 := rfl
    omega
theorem hasSub_nc {s : Str} (h : NC s) : hasSub s ⟨#[58, 58]⟩ = false := by
  rw [Bool.eq_false_iff]
  intro hs
  obtain ⟨i, hi⟩ := (hasSub_iff s _).1 hs
  unfold subAt at hi
  have h1 := (of_decide_eq_true hi).2
  have h2 : (58 : UInt8) ∈ (s.extract i (i + (⟨#[58, 58]⟩ : Str).size)).data.toList := by rw [h1]; decide
  rw [ByteArray.data_extract, Array.toList_extract] at h2
  exact h (List.mem_of_mem_drop (List.mem_of_mem_take h2))
theorem qualN (s : Str) : qual ⟨#[78]⟩ s = ⟨#[78]⟩ ++ ⟨#[58, 58]⟩ ++ s := if_neg (by decide)
theorem qualN_list (s : Str) : (qual ⟨#[78]⟩ s).data.toList = 78 :: 58 :: 58 :: s.data.toList := by
  rw [qualN, ByteArray.data_append, ByteArray.data_append]
  simp
theorem qualN_ne {s t : Str} (h : NC t) : qual ⟨#[78]⟩ s ≠ t := by
  intro e
  apply h
  rw [← e, qualN_list]
  simp
theorem qualN_inj {s t : Str} (h : qual ⟨#[78]⟩ s = qual ⟨#[78]⟩ t) : s = t := by
  have := congrArg (fun x : Str => x.data.toList) h
  simp only [qualN_list, List.cons.injEq, true_and] at this
  exact ByteArray.ext (Array.toList_inj.1 this)
theorem qual0 (s : Str) : qual ⟨#[]⟩ s = s := if_pos rfl
theorem qualN_size (s : Str) : (qual ⟨#[78]⟩ s).size = s.size + 3 := by
  have h1 : ∀ x : Str, x.size = x.data.toList.length := fun x => by rw [Array.length_toList]; rfl
  rw [h1, h1, qualN_list]; rfl
theorem eN_builtin (k : Nat) : builtinTy (eN k) = none := by
  have h : ∀ (c : UInt8) (l : List UInt8), c ≠ 69 → eN k ≠ ⟨(c :: l).toArray⟩ := by
    intro c l hc e
    have := congrArg (fun x : Str => x.data.toList) e
    simp only [eN_list, List.cons.injEq] at this
    exact hc this.1.symm
  unfold builtinTy
  rw [if_neg (h _ _ (by decide)), if_neg (h _ _ (by decide)), if_neg (by rintro (e | e); exact h _ _ (by decide) e; exact h _ _ (by decide) e),
    if_neg (by rintro (e | e | e | e); exact h _ _ (by decide) e; exact h _ _ (by decide) e; exact h _ _ (by decide) e; exact h _ _ (by decide) e)]

/-! ### what a bare name stands for in N -/
theorem resTy_bare {V : Env} (hC : V.C = []) {z : Str} (hz : NC z) (hb : builtinTy z = none) (n : Nat) :
    resTy V (n + 1) ⟨#[78]⟩ (.ref z) = some (if V.known (qual ⟨#[78]⟩ z) then some (.ent (qual ⟨#[78]⟩ z)) else if V.known z then some (.ent z) else none) := by
  have hk : ∀ s, kget V.C s = none := fun s => by rw [hC]; rfl
  rw [resTy, if_neg (by rw [hasSub_nc hz]; decide)]
  unfold resBare
  have hne : ¬ ((⟨#[78]⟩ : Str) = ByteArray.empty) := by decide
  rw [if_neg hne, hk]
  simp only
  by_cases h1 : V.known (qual ⟨#[78]⟩ z)
  · rw [if_pos ⟨hne, h1⟩, if_pos h1]
  · rw [if_neg (fun h => h1 h.2), if_neg h1, hk]
    simp only
    by_cases h2 : V.known z
    · rw [if_pos h2, if_pos h2]
    · rw [if_neg h2, if_neg h2, hb]
theorem resEnt_one {V : Env} {n : Nat} {ns nm z : Str} {r : Option RTy} (h : resTy V n ns (.ref z) = some r) :
    resEnt V n ns nm ⟨[], some [(⟨#[97]⟩, .ref z, false)], none⟩ = some (r.map fun t => ⟨qual ns nm, [], some (.record [(⟨#[97]⟩, t, false)]), none⟩) := by
  cases r <;> simp [resEnt, resRec, h]
theorem resEnt_zero (V : Env) (n : Nat) (ns nm : Str) : resEnt V n ns nm ⟨[], none, none⟩ = some (some ⟨qual ns nm, [], none, none⟩) := by simp [resEnt]

/-! ### no common types -/
theorem acyc_none {V : Env} (h : V.C = []) : Acyc V := ⟨fun _ => 0, fun n p ⟨t, r, h1, _⟩ => by rw [h] at h1; cases h1⟩
theorem EnvIs.noC {B : SpD} {D : Str → SpD} {S : Str → Prop} {V : Env} (h : EnvIs B D S V) (hB : B.cn = []) (hD : ∀ s, S s → (D s).cn = []) : V.C = [] := by
  refine kget_nil_of fun x => ?_
  cases hx : kget V.C x with
  | none => rfl
  | some t =>
    rcases h.back x t hx with ⟨h1, _⟩ | ⟨s, hs, n, hn, _⟩
    · rw [hB] at h1; simp at h1
    · rw [hD s hs] at hn; simp at hn

/-! ### the data -/
section
variable (x y z : Str)
def shY : List (Str × IEnt) := [(y, ⟨[], [(⟨#[97]⟩, .ref z, false)], none⟩)]
def shX : List (Str × IEnt) := [(x, ⟨[], [], none⟩)]
def shL : List ISp := [⟨⟨#[]⟩, shX x, [], []⟩, ⟨⟨#[78]⟩, shY y z, [], []⟩]
def shD : Str → SpD := fun _ => spOf (shY y z) [] []
theorem sh_bare : bareSp (shL x y z) = spOf (shX x) [] [] := by
  unfold bareSp shL
  simp only [List.foldl_cons, List.foldl_nil]
  rw [if_neg (by decide : ¬ (⟨#[78]⟩ : Str) = ⟨#[]⟩)]
  simp
theorem sh_named : namedSp (shL x y z) = [⟨#[78]⟩] := by
  unfold namedSp shL
  have h : (⟨#[78]⟩ : Str) ≠ ⟨#[]⟩ := by decide
  simp [h]
theorem sh_en : (spOf (shX x) [] []).en = [x] := rfl
theorem sh_enY : (shD y z ⟨#[78]⟩).en = [y] := rfl
theorem sh_AE : (spOf (shX x) [] []).AE x = ⟨[], none, none⟩ := by
  simp [spOf, shX, kget, IEnt.ast]
theorem sh_AEY (s : Str) : (shD y z s).AE y = ⟨[], some [(⟨#[97]⟩, .ref z, false)], none⟩ := by
  simp [shD, spOf, shY, kget, IEnt.ast]
end

variable {x y z : Str}
theorem sh_env {V : Env} (h : EnvIs (bareSp (shL x y z)) (shD y z) (· ∈ namedSp (shL x y z)) V) : V.C = [] ∧ ∀ s, V.known s ↔ s = x ∨ s = qual ⟨#[78]⟩ y := by
  rw [sh_bare, sh_named] at h
  refine ⟨h.noC rfl (fun _ _ => rfl), fun s => ?_⟩
  have h1 := h.ents s
  have h2 := h.enums s
  rw [sh_en] at h1
  have h3 : ¬ s ∈ V.N := by
    rw [h2]
    rintro (h | ⟨_, _, n, hn, _⟩)
    · simp [spOf] at h
    · simp [shD, spOf] at hn
  unfold Env.known
  constructor
  · rintro (h | h)
    · rcases h1.1 h with h | ⟨s', hs, n, hn, e⟩
      · exact .inl (by simpa using h)
      · simp only [List.mem_singleton] at hs
        subst hs
        rw [sh_enY] at hn
        simp only [List.mem_singleton] at hn
        subst hn
        exact .inr e
    · exact (h3 h).elim
  · rintro (rfl | rfl)
    · exact .inl (h1.2 (.inl (by simp)))
    · exact .inl (h1.2 (.inr ⟨⟨#[78]⟩, by simp, y, by rw [sh_enY]; simp, rfl⟩))
theorem sh_wrong : Wrong (bareSp (shL x y z)) (shD y z) (namedSp (shL x y z)) ↔ x = y := by
  rw [sh_bare, sh_named]
  unfold Wrong
  constructor
  · rintro (⟨n, _, h⟩ | ⟨s, hs, n, _, h⟩ | ⟨s, hs, h⟩)
    · simp [spOf] at h
    · simp [shD, spOf] at h
    · simp only [List.mem_singleton] at hs
      subst hs
      rcases h with ⟨t, h1, h2⟩ | ⟨t, h1, _⟩
      · have hx : t = x := by simpa [spOf, shX] using h2
        rcases h1 with h1 | h1 | h1
        · have hy : t = y := by simpa [SpD.names, shD, spOf, shY] using h1
          rw [← hx, hy]
        · simp [SpD.names, shD, spOf] at h1
        · simp [SpD.names, shD, spOf] at h1
      · simp [SpD.names] at h1
  · rintro rfl
    exact .inr (.inr ⟨⟨#[78]⟩, by simp, .inl ⟨x, .inl (by simp [SpD.names, shD, spOf, shY]), by simp [spOf, shX]⟩⟩)

/-- What the attribute is. -/
def shWant (x y z : Str) : Option Str := if z = y then some (qual ⟨#[78]⟩ y) else if z = x then some x else none
theorem sh_res {V : Env} (h : EnvIs (bareSp (shL x y z)) (shD y z) (· ∈ namedSp (shL x y z)) V) (hx : NC x) (hz : NC z) (hb : builtinTy z = none) :
    resEnt V 5 ⟨#[78]⟩ y ((shD y z ⟨#[78]⟩).AE y) = some ((shWant x y z).map fun s => ⟨qual ⟨#[78]⟩ y, [], some (.record [(⟨#[97]⟩, .ent s, false)]), none⟩) := by
  obtain ⟨hC, hk⟩ := sh_env h
  rw [sh_AEY, resEnt_one (resTy_bare hC hz hb 4)]
  congr 1
  unfold shWant
  have e1 : V.known (qual ⟨#[78]⟩ z) ↔ z = y := by
    rw [hk]
    constructor
    · rintro (h | h)
      · exact (qualN_ne hx h).elim
      · exact qualN_inj h
    · rintro rfl; exact .inr rfl
  have e2 : V.known z ↔ z = x := by
    rw [hk]
    constructor
    · rintro (h | h)
      · exact h
      · exact (qualN_ne hz h.symm).elim
    · rintro rfl; exact .inl rfl
  by_cases h1 : z = y
  · rw [if_pos (e1.2 h1), if_pos h1, h1]; rfl
  · rw [if_neg (fun h => h1 (e1.1 h)), if_neg h1]
    by_cases h2 : z = x
    · rw [if_pos (e2.2 h2), if_pos h2, h2]; rfl
    · rw [if_neg (fun h => h2 (e2.1 h)), if_neg h2]; rfl

theorem sh_ents {V : Env} {n : Str} {v : REnt} (h : EntsOf V 5 (bareSp (shL x y z)) (shD y z) (· ∈ namedSp (shL x y z)) n v) :
    (n = x ∧ v = REntOf V 5 ⟨#[]⟩ x ⟨[], none, none⟩) ∨ (n = qual ⟨#[78]⟩ y ∧ v = REntOf V 5 ⟨#[78]⟩ y ((shD y z ⟨#[78]⟩).AE y)) := by
  rw [sh_bare, sh_named] at h
  rcases h with ⟨m, hm, h1, h2⟩ | ⟨s, hs, m, hm, h1, h2⟩
  · rw [sh_en] at hm
    simp only [List.mem_singleton] at hm
    subst hm
    rw [qual0] at h1
    rw [sh_AE] at h2
    exact .inl ⟨h1, h2⟩
  · simp only [List.mem_singleton] at hs
    subst hs
    rw [sh_enY] at hm
    simp only [List.mem_singleton] at hm
    subst hm
    exact .inr ⟨h1, h2⟩
theorem REntOf_zero (V : Env) (ns nm : Str) : REntOf V 5 ns nm ⟨[], none, none⟩ = ⟨qual ns nm, [], none, none⟩ := by
  unfold REntOf; rw [resEnt_zero]; rfl

theorem sh_ok (hx : NC x) (hz : NC z) (hb : builtinTy z = none) (sx : x.size ≤ 1000) (sy : y.size ≤ 1000) : ResOk (shL x y z) (shD y z) 5 := by
  refine ⟨.none (by rw [sh_bare]; rfl) (fun _ _ => rfl), fun V hV _ => ⟨fun n hn => ?_, fun s hs n hn => ?_⟩, fun V hV _ n v h => ?_, ⟨[x, qual ⟨#[78]⟩ y], by simp, fun n hn => ?_, fun V hV _ n v h => ?_⟩, ⟨[], by simp, fun n hn => by simp at hn, fun n v h => ?_⟩⟩
  · rw [sh_bare] at hn ⊢
    rw [sh_en] at hn
    simp only [List.mem_singleton] at hn
    subst hn
    rw [sh_AE]
    exact ⟨_, resEnt_zero _ _ _ _⟩
  · rw [sh_named] at hs
    simp only [List.mem_singleton] at hs
    subst hs
    rw [sh_enY] at hn
    simp only [List.mem_singleton] at hn
    subst hn
    exact ⟨_, sh_res hV hx hz hb⟩
  · rcases sh_ents h with ⟨_, rfl⟩ | ⟨_, rfl⟩
    · rw [REntOf_zero]
      exact ⟨by simp, (fun t h => by simp at h), (fun t h => by simp at h)⟩
    · unfold REntOf
      rw [sh_res hV hx hz hb]
      cases hw : shWant x y z with
      | none => exact ⟨by simp [default, instInhabitedREnt.default], (fun t h => by simp [default, instInhabitedREnt.default] at h), (fun t h => by simp [default, instInhabitedREnt.default] at h)⟩
      | some s =>
        refine ⟨by simp, fun t h => ?_, fun t h => by simp at h⟩
        simp only [Option.map_some, Option.getD_some, Option.some.injEq] at h
        subst h
        refine .record (by simp) (fun k t o hk => ?_) (fun k t o hk => ?_)
        · simp only [List.mem_singleton, Prod.mk.injEq] at hk
          rw [hk.1]; decide
        · simp only [List.mem_singleton, Prod.mk.injEq] at hk
          rw [hk.2.1]; exact .ent s
  · rcases List.mem_cons.1 hn with rfl | hn
    · omega
    · simp only [List.mem_singleton] at hn
      rw [hn, qualN_size]; omega
  · rcases sh_ents h with ⟨rfl, _⟩ | ⟨rfl, _⟩ <;> simp
  · rw [sh_bare] at h
    rcases h with ⟨m, hm, _⟩ | ⟨s, _, m, hm, _⟩
    · simp [spOf] at hm
    · simp [shD, spOf] at hm

theorem meant_one {k s : Str} {a : List (Str × ATy × Bool)} (h : Meant (.record [(k, .ent s, false)]) (.record a)) : a = [(k, .ent s, false)] := by
  generalize hr : RTy.record [(k, .ent s, false)] = r at h
  generalize ha : ATy.record a = q at h
  cases h <;> cases ha
  rename_i l f ht hs hp hm
  cases hr
  have h1 := hp.length_eq
  simp only [List.length_map, List.length_cons, List.length_nil] at h1
  have h2 := hm k (.ent s) false (by simp)
  have h3 := ht k (.ent s) false (by simp)
  generalize f k = v at h2 h3
  cases h3
  match a, h1 with
  | [p], _ =>
    simp only [List.mem_singleton] at h2
    rw [h2]

theorem pair_of {α : Type} {l : List (Str × α)} {p q : Str} (hn : (l.map (·.1)).Nodup) (hpq : p ≠ q) (hp : p ∈ l.map (·.1)) (hq : q ∈ l.map (·.1)) (hall : ∀ r ∈ l, r.1 = p ∨ r.1 = q) :
    ∃ a b : α, l = [(p, a), (q, b)] ∨ l = [(q, b), (p, a)] := by
  have hperm : (l.map (·.1)).Perm [p, q] := by
    refine (List.perm_ext_iff_of_nodup hn (by simp [hpq])).2 fun x => ⟨fun h => ?_, fun h => ?_⟩
    · obtain ⟨r, hr, rfl⟩ := List.mem_map.1 h
      rcases hall r hr with e | e <;> simp [e]
    · rcases List.mem_cons.1 h with rfl | h
      · exact hp
      · simp only [List.mem_singleton] at h; rw [h]; exact hq
  have hlen := hperm.length_eq
  simp only [List.length_map, List.length_cons, List.length_nil] at hlen
  clear hp hq hperm
  match l, hlen, hn, hall with
  | [(r, a), (t, b)], _, hn, hall =>
    have hn : r ≠ t := fun e => by
      subst e
      simp at hn
    have h1 := hall (r, a) (by simp)
    have h2 := hall (t, b) (by simp)
    rcases h1 with rfl | rfl
    · rcases h2 with rfl | rfl
      · exact (hn rfl).elim
      · exact ⟨a, b, .inl rfl⟩
    · rcases h2 with rfl | rfl
      · exact ⟨b, a, .inr rfl⟩
      · exact (hn rfl).elim

theorem sh_post {w w' : World} {e : Ending} (hx : NC x) (hz : NC z) (hb : builtinTy z = none) (h : ImplPost (shL x y z) (shD y z) 5 w e w') :
    (x = y ∨ shWant x y z = none → e = .returned (.tuple #[.agg #[.slice none 0 0, .slice none 0 0, .slice none 0 0], .bool false, .bool false]) ∧ Keep NoB w w') ∧
    (x ≠ y → ∀ s, shWant x y z = some s → ∃ (lE : List (Str × IEnt)) (sE sN sA : Sl) (e0 e1 : IEnt), e = .returned (.tuple #[.agg #[slV sE, slV sN, slV sA], .bool true, .bool false]) ∧ RowAt EntC 8 w' (· < w.heap.size) lE sE ∧
      (lE = [(x, e1), (qual ⟨#[78]⟩ y, e0)] ∨ lE = [(qual ⟨#[78]⟩ y, e0), (x, e1)]) ∧ e0.attrs = [(⟨#[97]⟩, .ent s, false)] ∧ Keep NoB w w') := by
  constructor
  · intro hbad
    rcases h with ⟨he, _, hk⟩ | ⟨hw, V, hV, _, _, hr, _⟩
    · exact ⟨he, hk⟩
    · exfalso
      rcases hbad with hbad | hbad
      · exact hw (sh_wrong.2 hbad)
      · obtain ⟨v, hv⟩ := hr ⟨#[78]⟩ (by rw [sh_named]; simp) y (by rw [sh_enY]; simp)
        rw [sh_res hV hx hz hb, hbad] at hv
        cases hv
  · intro hxy s hs
    rcases h with ⟨_, hbad, _⟩ | ⟨hw, V, hV, _, _, hr, lE, lN, sE, sN, sA, he, hrow, _, _, ⟨_, hnod⟩, _, hfrom, hto, _, _, hk⟩
    · exfalso
      rcases hbad with hbad | ⟨V, hV, hbad⟩
      · exact hxy (sh_wrong.1 hbad)
      · replace hbad := hbad.resolve_left (fun h => h (acyc_none (sh_env hV).1))
        replace hbad := hbad.2
        rw [sh_bare, sh_named] at hbad
        rcases hbad with ⟨n, hn, h⟩ | ⟨t, ht, n, hn, h⟩
        · rw [sh_en] at hn
          simp only [List.mem_singleton] at hn
          subst hn
          rw [sh_AE, resEnt_zero] at h
          cases h
        · simp only [List.mem_singleton] at ht
          subst ht
          rw [sh_enY] at hn
          simp only [List.mem_singleton] at hn
          subst hn
          rw [sh_res hV hx hz hb, hs] at h
          cases h
    · have h1 : x ∈ lE.map (·.1) := hto x (REntOf V 5 ⟨#[]⟩ x ⟨[], none, none⟩) (by
        rw [sh_bare]
        exact .inl ⟨x, by rw [sh_en]; simp, (qual0 x).symm, by rw [sh_AE]⟩)
      have h2 : qual ⟨#[78]⟩ y ∈ lE.map (·.1) := hto (qual ⟨#[78]⟩ y) (REntOf V 5 ⟨#[78]⟩ y ((shD y z ⟨#[78]⟩).AE y)) (by
        rw [sh_named]
        exact .inr ⟨⟨#[78]⟩, by simp, y, by rw [sh_enY]; simp, rfl, rfl⟩)
      have hne : x ≠ qual ⟨#[78]⟩ y := fun e => qualN_ne hx e.symm
      obtain ⟨e1, e0, hl⟩ := pair_of hnod hne h1 h2 fun r hr' => by
        obtain ⟨v, hv, _⟩ := hfrom r hr'
        rcases sh_ents hv with ⟨h, _⟩ | ⟨h, _⟩
        · exact .inl h
        · exact .inr h
      refine ⟨lE, sE, sN, sA, e0, e1, he, hrow, hl, ?_, hk⟩
      have hm : (qual ⟨#[78]⟩ y, e0) ∈ lE := by rcases hl with rfl | rfl <;> simp
      obtain ⟨v, hv, hmean⟩ := hfrom _ hm
      rcases sh_ents hv with ⟨h, _⟩ | ⟨_, rfl⟩
      · exact (hne h.symm).elim
      · unfold REntOf at hmean
        rw [sh_res hV hx hz hb, hs] at hmean
        obtain ⟨_, ⟨l, hl', hm'⟩, _⟩ := hmean
        simp only [Option.map_some, Option.getD_some, ShapeL, RTy.record.injEq] at hl'
        subst hl'
        exact meant_one hm'
end Go.Proofs.YthhjehajdcgkhaaGreatDoor
