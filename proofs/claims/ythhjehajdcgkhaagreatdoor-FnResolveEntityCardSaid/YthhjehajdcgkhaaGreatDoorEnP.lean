/- FnResolveEnum, the plain law: what the declaration is resolved to. -/
import Derived.Test.YthhjehajdcgkhaaGreatDoorRes
namespace Go.Proofs.YthhjehajdcgkhaaGreatDoor
open Go.RowKit

section
variable (vs : List Str)
def enL : List ISp := [⟨⟨#[78, 58, 58, 77]⟩, [], [(⟨#[69]⟩, vs)]⟩]
def enD : Str → SpD := fun _ => spOf [] [(⟨#[69]⟩, vs)]
theorem en_bare : bareSp (enL vs) = spOf [] [] := by
  unfold bareSp enL
  simp only [List.foldl_cons, List.foldl_nil]
  rw [if_neg (by decide : ¬ (⟨#[78, 58, 58, 77]⟩ : Str) = ⟨#[]⟩)]
theorem en_named : namedSp (enL vs) = [⟨#[78, 58, 58, 77]⟩] := by
  unfold namedSp enL
  have h : (⟨#[78, 58, 58, 77]⟩ : Str) ≠ ⟨#[]⟩ := by decide
  simp [h]
theorem en_nn : (enD vs ⟨#[78, 58, 58, 77]⟩).nn = [⟨#[69]⟩] := rfl
theorem en_qual : qual ⟨#[78, 58, 58, 77]⟩ ⟨#[69]⟩ = ⟨#[78, 58, 58, 77, 58, 58, 69]⟩ := by decide
theorem en_ents {V : Env} {n : Str} {v : REnt} (h : EntsOf V 5 (bareSp (enL vs)) (enD vs) (· ∈ namedSp (enL vs)) n v) : False := by
  rw [en_bare] at h
  rcases h with ⟨m, hm, _⟩ | ⟨s, _, m, hm, _⟩
  · simp [spOf] at hm
  · simp [enD, spOf] at hm
theorem en_enums {n : Str} {y : Str × List Str} (h : EnumsOf (bareSp (enL vs)) (enD vs) (· ∈ namedSp (enL vs)) n y) : n = ⟨#[78, 58, 58, 77, 58, 58, 69]⟩ ∧ y.2 = vs := by
  rw [en_bare, en_named] at h
  rcases h with ⟨m, hm, _⟩ | ⟨s, hs, m, hm, h1, h2⟩
  · simp [spOf] at hm
  · simp only [List.mem_singleton] at hs
    subst hs
    rw [en_nn] at hm
    simp only [List.mem_singleton] at hm
    subst hm
    rw [en_qual] at h1
    refine ⟨h1, ?_⟩
    rw [h2]
    simp [enD, spOf, kget]
theorem en_wrong : ¬ Wrong (bareSp (enL vs)) (enD vs) (namedSp (enL vs)) := by
  rw [en_bare, en_named]
  unfold Wrong
  rintro (⟨n, _, h⟩ | ⟨s, hs, n, h, _⟩ | ⟨s, hs, h⟩)
  · simp [spOf] at h
  · simp [enD, spOf] at h
  · rcases h with ⟨t, h1, h2⟩ | ⟨t, h1, _⟩
    · simp [spOf] at h2
    · simp [SpD.names] at h1
theorem en_ok (hl : vs.length ≤ 20) : ResOk (enL vs) (enD vs) 5 := by
  refine ⟨fun V hV => ⟨fun n hn => ?_, fun s hs n hn => ?_⟩, fun V hV n v h => (en_ents vs h).elim, ⟨[], by simp, fun n hn => by simp at hn, fun V hV n v h => (en_ents vs h).elim⟩, ⟨[⟨#[78, 58, 58, 77, 58, 58, 69]⟩], by simp, fun n hn => ?_, fun n v h => ?_⟩⟩
  · rw [en_bare] at hn
    simp [spOf] at hn
  · simp [enD, spOf] at hn
  · simp only [List.mem_singleton] at hn
    subst hn
    decide
  · obtain ⟨h1, h2⟩ := en_enums vs h
    exact ⟨by rw [h1]; simp, by rw [h2]; omega⟩
theorem nil_of_keys {α : Type} {l : List (Str × α)} (h : ∀ p ∈ l, False) : l = [] := by
  cases l with
  | nil => rfl
  | cons p l => exact (h p (by simp)).elim
theorem one_of {α : Type} {l : List (Str × α)} {p : Str} {a : α} (hn : (l.map (·.1)).Nodup) (hp : p ∈ l.map (·.1)) (hall : ∀ r ∈ l, r = (p, a)) : l = [(p, a)] := by
  match l, hn, hp, hall with
  | [r], _, _, hall => rw [hall r (by simp)]
  | r :: t :: l, hn, _, hall =>
    have h1 := hall r (by simp)
    have h2 := hall t (by simp)
    subst h1 h2
    simp at hn
theorem en_post {w w' : World} {e : Ending} (h : ImplPost (enL vs) (enD vs) 5 w e w') :
    ∃ sE sN sA : Sl, e = .returned (.tuple #[.agg #[slV sE, slV sN, slV sA], .bool true, .bool false]) ∧ RowAt EntC 8 w' (· < w.heap.size) [] sE ∧ RowAt EnumC 2 w' (· < w.heap.size) [(⟨#[78, 58, 58, 77, 58, 58, 69]⟩, vs)] sN ∧ sA.2.1 = 0 ∧ Keep NoB w w' := by
  rcases h with ⟨_, hbad, _⟩ | ⟨hw, V, hV, _, hr, lE, lN, sE, sN, sA, he, hrE, hrN, hA, _, ⟨_, hnod⟩, hfE, _, hfN, htN, hk⟩
  · exfalso
    rcases hbad with hbad | ⟨V, hV, hbad⟩
    · exact en_wrong vs hbad
    · rw [en_bare, en_named] at hbad
      rcases hbad with ⟨n, hn, h⟩ | ⟨t, ht, n, hn, h⟩
      · simp [spOf] at hn
      · simp [enD, spOf] at hn
  · have h1 : lE = [] := nil_of_keys fun p hp => by
      obtain ⟨y, hy, _⟩ := hfE p hp
      exact en_ents vs hy
    have h2 : lN = [(⟨#[78, 58, 58, 77, 58, 58, 69]⟩, vs)] := one_of hnod (htN ⟨#[78, 58, 58, 77, 58, 58, 69]⟩ (⟨#[78, 58, 58, 77, 58, 58, 69]⟩, vs) (by
        rw [en_named]
        exact .inr ⟨⟨#[78, 58, 58, 77]⟩, by simp, ⟨#[69]⟩, by rw [en_nn]; simp, en_qual.symm, by rw [en_qual]; simp [enD, spOf, kget]⟩)) fun r hr' => by
      obtain ⟨q, hq⟩ := hfN r hr'
      obtain ⟨e1, e2⟩ := en_enums vs hq
      exact Prod.ext e1 e2
    subst h1 h2
    exact ⟨sE, sN, sA, he, hrE, hrN, hA, hk⟩
end
end Go.Proofs.YthhjehajdcgkhaaGreatDoor
