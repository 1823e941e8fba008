/- FnResolveEntity, the plain law: an entity type whose attributes are of plain types, in the order of their names, is resolved to itself. -/
import Derived.Test.YthhjehajdcgkhaaGreatDoorAk
import Derived.Test.YthhjehajdcgkhaaGreatDoorEnP
namespace Go.Proofs.YthhjehajdcgkhaaGreatDoor
open Go.RowKit

/-- a type of the language without names and records -/
inductive Plain : ATy → Prop
  | str : Plain .str
  | long : Plain .long
  | bool : Plain .bool
  | ext (s : Str) : s.size ≤ 8 → Plain (.ext s)
  | set {t : ATy} : Plain t → Plain (.set t)
def rOf : ATy → RTy
  | .str => .str
  | .long => .long
  | .bool => .bool
  | .ext s => .ext s
  | .set t => .set (rOf t)
  | .record _ => .str
  | .ent s => .ent s
  | .ref s => .ent s
def dep : ATy → Nat
  | .str => 0
  | .long => 0
  | .bool => 0
  | .ext _ => 0
  | .set t => dep t + 1
  | .record _ => 0
  | .ent _ => 0
  | .ref _ => 0
theorem Plain.flat {t : ATy} (h : Plain t) : Flat t := by
  induction h with
  | str => exact .str
  | long => exact .long
  | bool => exact .bool
  | ext s _ => exact .ext s
  | set _ ih => exact .set ih
theorem Plain.res {t : ATy} (h : Plain t) (V : Env) (ns : Str) : ∀ n, dep t < n → resTy V n ns t = some (some (rOf t)) := by
  induction h with
  | str => intro n hn; cases n with
    | zero => omega
    | succ n => rfl
  | long => intro n hn; cases n with
    | zero => omega
    | succ n => rfl
  | bool => intro n hn; cases n with
    | zero => omega
    | succ n => rfl
  | ext s _ => intro n hn; cases n with
    | zero => omega
    | succ n => rfl
  | @set t _ ih => intro n hn; cases n with
    | zero => omega
    | succ n =>
      rw [dep] at hn
      rw [resTy, ih n (by omega)]; rfl
theorem Plain.meant {t : ATy} (h : Plain t) : ∀ {a : ATy}, Meant (rOf t) a → a = t := by
  induction h with
  | str => intro a m; cases m; rfl
  | long => intro a m; cases m; rfl
  | bool => intro a m; cases m; rfl
  | ext s _ => intro a m; cases m; rfl
  | set _ ih => intro a m; cases m with
    | set m => rw [ih m]
theorem Plain.rok {t : ATy} (h : Plain t) : ROk (rOf t) := by
  induction h with
  | str => exact .str
  | long => exact .long
  | bool => exact .bool
  | ext s _ => exact .ext s
  | set _ ih => exact .set ih
theorem Plain.tsize {t : ATy} (h : Plain t) : (tKey t).size ≤ 7 * dep t + 23 := by
  induction h with
  | str => have := dig1 1 (by omega); rw [tKey, dep]; omega
  | long => have := dig1 2 (by omega); rw [tKey, dep]; omega
  | bool => have := dig1 3 (by omega); rw [tKey, dep]; omega
  | ext s hs =>
    have h1 := dig1 4 (by omega)
    have h2 := frm_size (s := s) (by omega)
    rw [tKey, dep, ByteArray.size_append]; omega
  | set _ ih =>
    have h1 := dig1 5 (by omega)
    rw [tKey, dep, ByteArray.size_append]; omega

/-! ### records -/
abbrev Ats := List (Str × ATy × Bool)
def rAt (l : Ats) : List (Str × RTy × Bool) := l.map fun x => (x.1, rOf x.2.1, x.2.2)
theorem rAt_keys (l : Ats) : (rAt l).map (·.1) = l.map (·.1) := by unfold rAt; rw [List.map_map]; rfl
theorem mapM_map {α β : Type} {f : α → Option β} {g : α → β} : ∀ {l : List α}, (∀ x ∈ l, f x = some (g x)) → l.mapM f = some (l.map g)
  | [], _ => rfl
  | x :: l, h => by
    rw [List.mapM_cons, h x (.head _), mapM_map (l := l) fun y hy => h y (.tail _ hy)]; rfl
theorem resRec_plain {V : Env} {n : Nat} {ns : Str} {l : Ats} (h : ∀ x ∈ l, Plain x.2.1 ∧ dep x.2.1 < n) : resRec (resTy V n ns) l = some (some (.record (rAt l))) := by
  unfold resRec
  rw [mapM_map (g := fun p => (p.1, some (rOf p.2.1), p.2.2)) fun x hx => by rw [(h x hx).1.res V ns n (h x hx).2]; rfl]
  simp only [Option.map_some]
  rw [mapM_map (g := fun p => (p.1, p.2.1.getD .str, p.2.2)) fun x hx => by
    obtain ⟨y, _, rfl⟩ := List.mem_map.1 hx
    rfl]
  rw [List.map_map]; rfl
theorem keys_index {l l' : Ats} (hk : l'.map (·.1) = l.map (·.1)) (hn : (l.map (·.1)).Nodup) (h : ∀ x ∈ l, x ∈ l') : l' = l := by
  have hn' : (l'.map (·.1)).Nodup := hk ▸ hn
  have hlen : l'.length = l.length := by have := congrArg List.length hk; simpa using this
  refine List.ext_getElem hlen fun i h1 h2 => ?_
  have hm := h _ (List.getElem_mem h2)
  have hkey : (l'[i]).1 = (l[i]).1 := by
    have h3 : (l'.map (·.1))[i]'(by simpa using h1) = (l.map (·.1))[i]'(by simpa using h2) := List.getElem_of_eq hk _
    simpa using h3
  have h4 : (l[i].1, l'[i].2) ∈ l' := hkey ▸ List.getElem_mem h1
  have h5 := key_unique hn' h4 (show (l[i].1, l[i].2) ∈ l' from hm)
  exact Prod.ext hkey h5
theorem meant_rec {l l' : Ats} (hp : ∀ x ∈ l, Plain x.2.1) (hs : (l.map (·.1)).Pairwise leS) (hn : (l.map (·.1)).Nodup) (h : Meant (.record (rAt l)) (.record l')) : l' = l := by
  generalize hr : RTy.record (rAt l) = r at h
  generalize ha : ATy.record l' = q at h
  cases h <;> cases ha
  rename_i l0 f ht hs' hp' hm
  cases hr
  rw [rAt_keys] at hp'
  have hkeys : l'.map (·.1) = l.map (·.1) := List.Perm.eq_of_pairwise (le := leS) (fun _ _ _ _ h1 h2 => leS_antisymm h1 h2) hs' hs hp'
  refine keys_index hkeys hn fun x hx => ?_
  have hx' : (x.1, rOf x.2.1, x.2.2) ∈ rAt l := List.mem_map.2 ⟨x, hx, rfl⟩
  have h1 := hm _ _ _ hx'
  rw [(hp x hx).meant (ht _ _ _ hx')] at h1
  exact h1

theorem catF_bnd {α : Type} (f : α → Str) (B : Nat) (l : List α) (h : ∀ x ∈ l, (f x).size ≤ B) : (catF f l).size ≤ l.length * B := by
  have hg : ∀ (l : List α), (∀ x ∈ l, (f x).size ≤ B) → ∀ a : Str, (l.foldl (fun acc x => acc ++ f x) a).size ≤ a.size + l.length * B := by
    intro l
    induction l with
    | nil => intro _ a; simp
    | cons x l ih =>
      intro h a
      have h1 := ih (fun y hy => h y (List.mem_cons_of_mem _ hy)) (a ++ f x)
      have h2 := h x (by simp)
      rw [ByteArray.size_append] at h1
      simp only [List.foldl_cons, List.length_cons, Nat.add_mul, Nat.one_mul]
      omega
  have h1 := hg l h ⟨#[]⟩
  have h2 : (⟨#[]⟩ : Str).size = 0 := rfl
  unfold catF
  omega

/-! ### the data -/
/-- one entity type outside of namespaces -/
structure PEnt where
  l : Ats
  tg : Option ATy
structure PEnt.Ok (P : PEnt) (d : Nat) : Prop where
  pl : ∀ x ∈ P.l, Plain x.2.1 ∧ dep x.2.1 < d
  srt : (P.l.map (·.1)).Pairwise leS
  nod : (P.l.map (·.1)).Nodup
  len : P.l.length ≤ 30
  nsz : ∀ x ∈ P.l, x.1.size ≤ 8
  tag : ∀ t, P.tg = some t → Plain t ∧ dep t < d
  d : d ≤ 30
section
variable (P : PEnt)
abbrev peE : IEnt := ⟨[], P.l, P.tg⟩
def peX : List (Str × IEnt) := [(⟨#[69]⟩, peE P)]
def peL : List ISp := [⟨⟨#[]⟩, peX P, []⟩]
def peD : Str → SpD := fun _ => spOf [] []
theorem pe_bare : bareSp (peL P) = spOf (peX P) [] := by
  unfold bareSp peL
  simp
theorem pe_named : namedSp (peL P) = [] := by
  unfold namedSp peL
  simp
theorem pe_en : (spOf (peX P) []).en = [⟨#[69]⟩] := rfl
theorem pe_AE : (spOf (peX P) []).AE ⟨#[69]⟩ = (peE P).ast := by
  simp [spOf, peX, kget]
def peR : REnt := ⟨⟨#[69]⟩, [], if P.l = [] then none else some (.record (rAt P.l)), P.tg.map rOf⟩
variable {P} {d : Nat}
theorem pe_res (ok : P.Ok d) (V : Env) : resEnt V d ⟨#[]⟩ ⟨#[69]⟩ (peE P).ast = some (some (peR P)) := by
  have h1 : resRec (resTy V d ⟨#[]⟩) P.l = some (some (.record (rAt P.l))) := resRec_plain ok.pl
  have hq : qual ⟨#[]⟩ ⟨#[69]⟩ = ⟨#[69]⟩ := qual0 _
  by_cases h : P.l = []
  · cases ht : P.tg with
    | none => simp [resEnt, IEnt.ast, peE, h, ht, peR, hq]
    | some t =>
      have h2 := (ok.tag t ht).1.res V ⟨#[]⟩ d (ok.tag t ht).2
      simp [resEnt, IEnt.ast, peE, h, ht, peR, hq, h2]
  · cases ht : P.tg with
    | none => simp [resEnt, IEnt.ast, peE, h, ht, peR, hq, h1]
    | some t =>
      have h2 := (ok.tag t ht).1.res V ⟨#[]⟩ d (ok.tag t ht).2
      simp [resEnt, IEnt.ast, peE, h, ht, peR, hq, h1, h2]
theorem pe_ents (ok : P.Ok d) {V : Env} {n : Str} {v : REnt} (h : EntsOf V d (bareSp (peL P)) peD (· ∈ namedSp (peL P)) n v) : n = ⟨#[69]⟩ ∧ v = peR P := by
  rw [pe_bare, pe_named] at h
  rcases h with ⟨m, hm, h1, h2⟩ | ⟨s, hs, _⟩
  · rw [pe_en] at hm
    simp only [List.mem_singleton] at hm
    subst hm
    rw [qual0] at h1
    rw [pe_AE] at h2
    unfold REntOf at h2
    rw [pe_res ok] at h2
    exact ⟨h1, h2⟩
  · simp at hs
theorem pe_ok (ok : P.Ok d) : ResOk (peL P) peD d := by
  refine ⟨fun V hV => ⟨fun n hn => ?_, fun s hs n hn => ?_⟩, fun V hV n v h => ?_, ⟨[⟨#[69]⟩], by simp, fun n hn => ?_, fun V hV n v h => ?_⟩, ⟨[], by simp, fun n hn => by simp at hn, fun n v h => ?_⟩⟩
  · rw [pe_bare] at hn ⊢
    rw [pe_en] at hn
    simp only [List.mem_singleton] at hn
    subst hn
    rw [pe_AE]
    exact ⟨_, pe_res ok V⟩
  · rw [pe_named] at hs; simp at hs
  · obtain ⟨_, rfl⟩ := pe_ents ok h
    refine ⟨by simp [peR], fun t h => ?_, fun t h => ?_⟩
    · unfold peR at h
      by_cases h0 : P.l = []
      · simp [h0] at h
      · simp only [if_neg h0, Option.some.injEq] at h
        subst h
        refine .record (by have := ok.len; unfold rAt; rw [List.length_map]; omega) (fun k t o hk => ?_) (fun k t o hk => ?_)
        · obtain ⟨x, hx, e⟩ := List.mem_map.1 hk
          have := ok.nsz x hx
          cases e; omega
        · obtain ⟨x, hx, e⟩ := List.mem_map.1 hk
          cases e
          exact (ok.pl x hx).1.rok
    · unfold peR at h
      simp only [Option.map_eq_some_iff] at h
      obtain ⟨a, ha, rfl⟩ := h
      exact (ok.tag a ha).1.rok
  · simp only [List.mem_singleton] at hn
    subst hn; decide
  · rw [(pe_ents ok h).1]; simp
  · rw [pe_bare, pe_named] at h
    rcases h with ⟨m, hm, _⟩ | ⟨s, hs, m, hm, _⟩
    · simp [spOf] at hm
    · simp at hs
theorem pe_post (ok : P.Ok d) {w w' : World} {e : Ending} (h : ImplPost (peL P) peD d w e w') :
    ∃ (sE sN sA : Sl), e = .returned (.tuple #[.agg #[slV sE, slV sN, slV sA], .bool true, .bool false]) ∧ RowAt EntC 8 w' (· < w.heap.size) (peX P) sE ∧ RowAt EnumC 2 w' (· < w.heap.size) [] sN ∧ sA.2.1 = 0 ∧ Keep NoB w w' := by
  rcases h with ⟨_, hbad, _⟩ | ⟨hw, V, hV, _, hr, lE, lN, sE, sN, sA, he, hrE, hrN, hA, ⟨_, hnod⟩, _, hfE, htE, hfN, _, hk⟩
  · exfalso
    rw [pe_bare, pe_named] at hbad
    rcases hbad with (⟨n, _, h⟩ | ⟨s, hs, _⟩ | ⟨s, hs, _⟩) | ⟨V, hV, ⟨n, hn, h⟩ | ⟨s, hs, _⟩⟩
    · simp [spOf] at h
    · simp at hs
    · simp at hs
    · rw [pe_en] at hn
      simp only [List.mem_singleton] at hn
      subst hn
      rw [pe_AE, pe_res ok] at h
      cases h
    · simp at hs
  · have h1 : lE = peX P := one_of hnod (htE ⟨#[69]⟩ (peR P) (by
        rw [pe_bare]
        exact .inl ⟨⟨#[69]⟩, by rw [pe_en]; simp, (qual0 _).symm, by rw [pe_AE]; unfold REntOf; rw [pe_res ok]; rfl⟩)) fun r hr' => by
      obtain ⟨y, hy, hm⟩ := hfE r hr'
      obtain ⟨e1, rfl⟩ := pe_ents ok hy
      obtain ⟨hp, ⟨l, hl, hml⟩, ht⟩ := hm
      refine Prod.ext e1 ?_
      obtain ⟨n, ⟨ps, l', tg⟩⟩ := r
      have h2 : ps = [] := hp
      have h3 : l' = P.l := by
        by_cases h0 : P.l = []
        · have hl' : ShapeL none l := by unfold peR at hl; simpa [h0] using hl
          have hl2 : l = [] := hl'
          rw [hl2] at hml
          have := meant_rec (l := []) (fun _ h => by simp at h) (by simp) (by simp) hml
          rw [h0]; exact this
        · have hl' : ShapeL (some (.record (rAt P.l))) l := by unfold peR at hl; simpa [h0] using hl
          have hl2 : l = rAt P.l := by unfold ShapeL at hl'; cases hl'; rfl
          rw [hl2] at hml
          exact meant_rec (fun x hx => (ok.pl x hx).1) ok.srt ok.nod hml
      have h4 : tg = P.tg := by
        cases hq : P.tg with
        | none =>
          unfold peR at ht
          rw [hq] at ht
          cases tg with
          | none => rfl
          | some a => exact ht.elim
        | some t =>
          unfold peR at ht
          rw [hq] at ht
          cases tg with
          | none => exact ht.elim
          | some a => rw [(ok.tag t hq).1.meant ht]
      subst h2 h3 h4
      rfl
    have h2 : lN = [] := nil_of_keys fun p hp => by
      obtain ⟨q, hq⟩ := hfN p hp
      rw [pe_bare, pe_named] at hq
      rcases hq with ⟨m, hm, _⟩ | ⟨s, hs, m, hm, _⟩
      · simp [spOf] at hm
      · simp at hs
    subst h1 h2
    exact ⟨sE, sN, sA, he, hrE, hrN, hA, hk⟩
end

/-! ### the law's own attributes -/
def exN (k : Nat) : Str := if k % 4 = 0 then ⟨#[100, 101, 99, 105, 109, 97, 108]⟩ else if k % 4 = 1 then ⟨#[100, 97, 116, 101, 116, 105, 109, 101]⟩ else if k % 4 = 2 then ⟨#[100, 117, 114, 97, 116, 105, 111, 110]⟩ else ⟨#[105, 112, 97, 100, 100, 114]⟩
def baseT (k : Nat) : ATy := if 4 ≤ k % 8 then .ext (exN k) else if k % 3 = 0 then .str else if k % 3 = 1 then .long else .bool
def setT : Nat → ATy → ATy
  | 0, t => t
  | d + 1, t => .set (setT d t)
theorem exN_size (k : Nat) : (exN k).size ≤ 8 := by
  unfold exN
  by_cases h0 : k % 4 = 0
  · rw [if_pos h0]; decide
  · rw [if_neg h0]
    by_cases h1 : k % 4 = 1
    · rw [if_pos h1]; decide
    · rw [if_neg h1]
      by_cases h2 : k % 4 = 2
      · rw [if_pos h2]; decide
      · rw [if_neg h2]; decide
theorem baseT_plain (k : Nat) : Plain (baseT k) ∧ dep (baseT k) = 0 := by
  unfold baseT
  by_cases h : 4 ≤ k % 8
  · rw [if_pos h]; exact ⟨.ext _ (exN_size k), rfl⟩
  · rw [if_neg h]
    by_cases h0 : k % 3 = 0
    · rw [if_pos h0]; exact ⟨.str, rfl⟩
    · rw [if_neg h0]
      by_cases h1 : k % 3 = 1
      · rw [if_pos h1]; exact ⟨.long, rfl⟩
      · rw [if_neg h1]; exact ⟨.bool, rfl⟩
theorem setT_plain {t : ATy} (h : Plain t) (h0 : dep t = 0) : ∀ d, Plain (setT d t) ∧ dep (setT d t) = d
  | 0 => ⟨h, h0⟩
  | d + 1 => ⟨.set (setT_plain h h0 d).1, by rw [setT, dep, (setT_plain h h0 d).2]⟩
def aNm (i : Nat) : Str := ⟨#[97]⟩ ++ digS i 2
def atL (K : Nat → Nat) (d n : Nat) : Ats := (List.range n).map fun i => (aNm i, setT d (baseT (K i)), decide (128 ≤ K i))
theorem atL_snoc (K : Nat → Nat) (d n : Nat) : atL K d (n + 1) = atL K d n ++ [(aNm n, setT d (baseT (K n)), decide (128 ≤ K n))] := by
  unfold atL; rw [List.range_succ, List.map_append]; rfl
theorem dig2 {i : Nat} (h : i < 100) : dig i 2 = [dg (i / 10), dg i] := by
  rw [dig_step (by omega), dig_step (n := i / 10) (by omega), dig, dif_pos (by omega)]; rfl
theorem aNm_eq {i : Nat} (h : i < 100) : aNm i = ⟨#[97, dg (i / 10), dg i]⟩ := by
  unfold aNm digS; rw [dig2 h]; rfl
def aNames : List Str := (List.range 30).map fun i => ⟨#[97, dg (i / 10), dg i]⟩
theorem aNames_srt : aNames.Pairwise (fun a b => a.data.toList ≤ b.data.toList) := by decide +kernel
theorem aNames_nod : aNames.Nodup := by decide +kernel
theorem atL_keys (K : Nat → Nat) (d : Nat) {n : Nat} (h : n ≤ 30) : (atL K d n).map (·.1) = aNames.take n := by
  unfold atL aNames
  rw [List.map_map, ← List.map_take, List.take_range, Nat.min_eq_left h]
  refine List.map_congr_left fun i hi => ?_
  exact aNm_eq (by have := List.mem_range.1 hi; omega)
theorem atL_ok (K : Nat → Nat) (d : Nat) {n : Nat} (h : n ≤ 30) (hd : d ≤ 20) (tg : Option ATy) (ht : tg = none ∨ tg = some .long) : (PEnt.mk (atL K d n) tg).Ok 30 := by
  refine ⟨fun x hx => ?_, ?_, ?_, by simp [atL, h], fun x hx => ?_, fun t e => ?_, Nat.le_refl _⟩
  · obtain ⟨i, _, rfl⟩ := List.mem_map.1 hx
    obtain ⟨h1, h2⟩ := setT_plain (baseT_plain (K i)).1 (baseT_plain (K i)).2 d
    exact ⟨h1, by show dep (setT d (baseT (K i))) < 30; omega⟩
  · show ((atL K d n).map (·.1)).Pairwise leS
    rw [atL_keys K d h]
    exact (aNames_srt.sublist (List.take_sublist _ _))
  · show ((atL K d n).map (·.1)).Nodup
    rw [atL_keys K d h]
    exact (aNames_nod.sublist (List.take_sublist _ _))
  · obtain ⟨i, hi, rfl⟩ := List.mem_map.1 hx
    show (aNm i).size ≤ 8
    rw [aNm_eq (by have := List.mem_range.1 hi; omega)]
    show 3 ≤ 8
    omega
  · have e' : tg = some t := e
    rcases ht with rfl | rfl
    · cases e'
    · cases e'; exact ⟨.long, by decide⟩
theorem PEnt.Ok.asize {P : PEnt} {d : Nat} (ok : P.Ok d) : (aKey P.l).size ≤ 30 * 300 := by
  have h1 := catF_bnd (pairP) 300 (P.l.map attrP) fun x hx => by
    obtain ⟨y, hy, rfl⟩ := List.mem_map.1 hx
    have h2 := (ok.pl y hy).1.tsize
    have h3 := (ok.pl y hy).2
    have h4 := ok.d
    have h5 := ok.nsz y hy
    have h6 := frm_size (s := y.1) (by omega)
    have h7 : (markS y.2.2 ++ tKey y.2.1).size ≤ 234 := by rw [ByteArray.size_append, markS_size]; omega
    have h8 := frm_size (s := markS y.2.2 ++ tKey y.2.1) (by omega)
    unfold pairP attrP
    rw [ByteArray.size_append]
    show (frm y.1).size + (frm (markS y.2.2 ++ tKey y.2.1)).size ≤ 300
    omega
  rw [List.length_map] at h1
  have h2 := ok.len
  unfold aKey
  exact Nat.le_trans h1 (Nat.mul_le_mul_right _ h2)
end Go.Proofs.YthhjehajdcgkhaaGreatDoor
