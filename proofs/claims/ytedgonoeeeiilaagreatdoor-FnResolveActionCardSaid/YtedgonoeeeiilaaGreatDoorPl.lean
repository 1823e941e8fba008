/- Plain facts of schemas without common types; given entity types and actions in rows. -/
import Derived.Test.YtedgonoeeeiilaaGreatDoorRes
namespace Go.Proofs.YtedgonoeeeiilaaGreatDoor
open Go.RowKit

/-- A fact behind a door that no tactic looks through: no proposition, so no rule of the walk (Lib.hid's facts are rules still, which costs). -/
structure Bx (p : Prop) : Type where
  out : p
theorem acyc_none {V : Env} (h : V.C = []) : Acyc V := ⟨fun _ => 0, fun n p ⟨t, r, h1, _⟩ => by rw [h] at h1; cases h1⟩
theorem EnvIs.noC {B : SpD} {D : Str → SpD} {S : Str → Prop} {V : Env} (h : EnvIs B D S V) (hB : B.cn = []) (hD : ∀ s, S s → (D s).cn = []) : V.C = [] := by
  refine kget_nil_of fun x => ?_
  cases hx : kget V.C x with
  | none => rfl
  | some t =>
    rcases h.back x t hx with ⟨h1, _⟩ | ⟨s, hs, n, hn, _⟩
    · rw [hB] at h1; simp at h1
    · rw [hD s hs] at hn; simp at hn
theorem ltU_total {x y : Uid} (h : ¬ ltU y x) (k : ¬ ltU x y) : x = y := by
  refine totU x y ?_ ?_
  · rw [← Bool.not_eq_true, ltOf_cmpU]; exact k
  · rw [← Bool.not_eq_true, ltOf_cmpU]; exact h
theorem qual0 (s : Str) : qual ⟨#[]⟩ s = s := if_pos rfl
theorem resEnt_zero (V : Env) (n : Nat) (ns nm : Str) : resEnt V n ns nm ⟨[], none, none⟩ = some (some ⟨qual ns nm, [], none, none⟩) := by simp [resEnt]
theorem REntOf_zero (V : Env) (f : Nat) (ns nm : Str) : REntOf V f ns nm ⟨[], none, none⟩ = ⟨qual ns nm, [], none, none⟩ := by
  unfold REntOf; rw [resEnt_zero]; rfl
theorem cellsAt_of_block {w : World} {b : Nat} {cs : Array Value} {T : TypeId} {f : Nat × Nat} (h : w.heap[b]? = some (.cells cs T f)) : CellsAt w b 0 cs.toList := by
  intro j v hj
  rw [Nat.zero_add, cell_cells h]
  simpa using hj
theorem ient_empty (w : World) (M : Nat → Prop) (nm : Str) : IEntIs w M nm ⟨[], [], none⟩ (none, 0, 0) (none, 0, 0) 0 ⟨#[]⟩ (none, 0, 0) (none, 0, 0) :=
  ⟨rfl, by simp, by simp, ⟨none, 0, rfl, .inl rfl⟩, .record ⟨#[]⟩ (none, 0, 0) none 0 (fun _ => 0) (fun _ => ⟨#[]⟩) (fun _ => (none, 0, 0)) (fun _ => (none, 0, 0)) (by simp) (by simp) (.inl rfl) (fun i k t q h => by simp at h), fun t h => by cases h⟩
/-- Given entity types in a row. -/
structure GivenE (w : World) (es : List (Str × IEnt)) (se : Sl) : Prop where
  elen : se.2.1 = es.length
  eL : es.length ≤ 1000000
  enod : (es.map (·.1)).Nodup
  esz : ∀ p ∈ es, p.1.size ≤ 1000000
  ent : es = [] ∨ ∃ b off, se.1 = some ⟨b, off, none⟩ ∧ ∀ i nm e, es[i]? = some (nm, e) → ∃ ps ats k s el al, CellsAt w b (off + i * 8) [.string nm, slV ps, slV ats, .bool e.tags.isSome, .int .i64 k, .string s, slV el, slV al] ∧ IEntIs w NoB nm e ps ats k s el al
theorem GivenE.nil (w : World) : GivenE w [] (none, 0, 0) := ⟨rfl, by simp, by simp, by simp, .inl rfl⟩
/-- Given actions in a row. -/
structure GivenA (w : World) (ac : List (Str × AAct)) (sa : Sl) : Prop where
  alen : sa.2.1 = ac.length
  aL : ac.length ≤ 1000000
  anod : (ac.map (·.1)).Nodup
  asz : ∀ p ∈ ac, p.1.size ≤ 1000000
  act : ac = [] ∨ ∃ b off, sa.1 = some ⟨b, off, none⟩ ∧ ∀ i nm a, ac[i]? = some (nm, a) → ∃ ps fl prs rss k s el al, CellsAt w b (off + i * 9) [.string nm, slV ps, .bool fl, slV prs, slV rss, .int .i64 k, .string s, slV el, slV al] ∧ IActIs w NoB a ps fl prs rss k s el al
theorem GivenA.nil (w : World) : GivenA w [] (none, 0, 0) := ⟨rfl, by simp, by simp, by simp, .inl rfl⟩
theorem isp_of {w : World} {es : List (Str × IEnt)} {ac : List (Str × AAct)} {se sa : Sl} (h : GivenE w es se) (k : GivenA w ac sa) : ISpIs w NoB es [] [] ac se (none, 0, 0) sa (none, 0, 0) where
  elen := h.elen
  nlen := rfl
  alen := k.alen
  aL := k.aL
  anod := k.anod
  asz := k.asz
  act := k.act
  clen := rfl
  cL := by simp
  cnod := by simp
  csz := by simp
  com := .inl rfl
  eL := h.eL
  nL := by simp
  enod := h.enod
  nnod := by simp
  esz := h.esz
  nsz := by simp
  ent := h.ent
  enu := .inl rfl
theorem givenE_one {w : World} {nm : Str} {b : Nat} (hs : nm.size ≤ 1000000) (hc : CellsAt w b 0 [.string nm, .slice none 0 0, .slice none 0 0, .bool false, .int .i64 0, .string ⟨#[]⟩, .slice none 0 0, .slice none 0 0]) : GivenE w [(nm, ⟨[], [], none⟩)] (some ⟨b, 0, none⟩, 1, 1) := by
  refine ⟨rfl, by simp, by simp, fun p hp => ?_, .inr ⟨b, 0, rfl, fun i n e' hi => ?_⟩⟩
  · simp only [List.mem_singleton] at hp; rw [hp]; exact hs
  · rcases i with _ | i
    · simp only [List.getElem?_cons_zero, Option.some.injEq, Prod.mk.injEq] at hi
      obtain ⟨rfl, rfl⟩ := hi
      exact ⟨(none, 0, 0), (none, 0, 0), 0, ⟨#[]⟩, (none, 0, 0), (none, 0, 0), hc, ient_empty _ _ _⟩
    · simp at hi
end Go.Proofs.YtedgonoeeeiilaaGreatDoor
