/- Actions: as they are given, in the syntax tree, resolved; how they lie in memory. -/
import Derived.Test.YtedgonoeeeiilaaGreatDoorWi
import Derived.Test.YtedgonoeeeiilaaGreatDoorUk
namespace Go.Proofs.YtedgonoeeeiilaaGreatDoor
open Go.RowKit

abbrev Uid := Str × Str
/-- An action of the syntax tree. -/
structure AAct where
  parents : List Uid
  app : Option (List Str × List Str × Option ATy)
  deriving Inhabited
/-- A resolved one. -/
structure RAct where
  uid : Uid
  parents : List Uid
  app : Option (List Str × List Str × List (Str × RTy × Bool))
  deriving Inhabited
/-- a slice of structs of two strings -/
def UidsAt (w : World) (M : Nat → Prop) (l : List Uid) (v : Value) : Prop := SliceAt w M 2 l.length v (fun i => [.string (l.getD i (⟨#[]⟩, ⟨#[]⟩)).1, .string (l.getD i (⟨#[]⟩, ⟨#[]⟩)).2])
theorem UidsAt.keep : Keeps UidsAt := ⟨fun hk h2 h3 h => SliceAt.keep h hk h2 h3 (.inr (by omega))⟩
theorem ATags.keep : Keeps ATags := by
  refine ⟨fun {w w' M M' M2 e v} hk h2 h3 ht => ?_⟩
  cases e with
  | none => exact ht
  | some t => exact ATyIs.keep hk h2 h3 ht
/-- To what an action of the syntax tree applies. -/
def ATo (w : World) (M : Nat → Prop) : Option (List Str × List Str × Option ATy) → Value → Prop
  | none, v => v = .pointer none
  | some x, v => ∃ b pv rv cv, v = .pointer (some ⟨b, 0, none⟩) ∧ ¬ M b ∧ w.heap[b]? = some (.cells #[pv, rv, cv] 236 (0, 0)) ∧ StrsAt w M x.1 pv ∧ StrsAt w M x.2.1 rv ∧ ATags w M x.2.2 cv ∧ (∀ p ∈ x.1, p.size ≤ 1000000) ∧ (∀ p ∈ x.2.1, p.size ≤ 1000000) ∧ x.1.length ≤ 1000000 ∧ x.2.1.length ≤ 1000000
theorem ATo.keep : Keeps ATo := by
  refine ⟨fun {w w' M M' M2 e v} hk h2 h3 ht => ?_⟩
  cases e with
  | none => exact ht
  | some x =>
    obtain ⟨b, pv, rv, cv, e1, hM, hb, h4, h5, h6, h7⟩ := ht
    have hlt : b < w.heap.size := (Array.getElem?_eq_some_iff.1 hb).1
    exact ⟨b, pv, rv, cv, e1, fun q => hM (h3 b hlt q), hk.heap hb (fun q => hM (h2 b hlt q)), StrsAt.keep.k hk h2 h3 h4, StrsAt.keep.k hk h2 h3 h5, ATags.keep.k hk h2 h3 h6, h7⟩
def AActIs (w : World) (M : Nat → Prop) (a : AAct) (v : Value) : Prop :=
  ∃ an pv tv, v = .agg #[.map an, pv, tv] ∧ UidsAt w M a.parents pv ∧ (∀ p ∈ a.parents, p.1.size ≤ 1000000 ∧ p.2.size ≤ 1000000) ∧ a.parents.length ≤ 1000000 ∧ ATo w M a.app tv
theorem AActIs.keep : Keeps AActIs := ⟨fun hk h2 h3 ⟨an, pv, tv, e1, hp, hz, hl, ht⟩ => ⟨an, pv, tv, e1, UidsAt.keep.k hk h2 h3 hp, hz, hl, ATo.keep.k hk h2 h3 ht⟩⟩
/-- To what a resolved action applies. -/
def RTo (w : World) (M : Nat → Prop) : Option (List Str × List Str × List (Str × RTy × Bool)) → Value → Prop
  | none, v => v = .pointer none
  | some x, v => ∃ b pv rv cv, v = .pointer (some ⟨b, 0, none⟩) ∧ ¬ M b ∧ w.heap[b]? = some (.cells #[pv, rv, cv] 116 (0, 0)) ∧ StrsAt w M x.1 pv ∧ StrsAt w M x.2.1 rv ∧ RShape w M (some (.record x.2.2)) cv
theorem RTo.keep : Keeps RTo := by
  refine ⟨fun {w w' M M' M2 e v} hk h2 h3 ht => ?_⟩
  cases e with
  | none => exact ht
  | some x =>
    obtain ⟨b, pv, rv, cv, e1, hM, hb, h4, h5, h6⟩ := ht
    have hlt : b < w.heap.size := (Array.getElem?_eq_some_iff.1 hb).1
    exact ⟨b, pv, rv, cv, e1, fun q => hM (h3 b hlt q), hk.heap hb (fun q => hM (h2 b hlt q)), StrsAt.keep.k hk h2 h3 h4, StrsAt.keep.k hk h2 h3 h5, RShape.keep.k hk h2 h3 h6⟩
/-- A set of identifiers: the keys of a map. -/
def UidSet (w : World) (M : Nat → Prop) (l : List Uid) (v : Value) : Prop := ∃ b lp, v = .map (some b) ∧ ¬ M b ∧ KMap encU w b lp ∧ ∀ u, u ∈ lp.map (·.1) ↔ u ∈ l
theorem UidSet.keep : Keeps UidSet := by
  refine ⟨fun {w w' M M' M2 e v} hk h2 h3 ⟨b, lp, e1, hM, hm, hu⟩ => ?_⟩
  exact ⟨b, lp, e1, fun q => hM (h3 b hm.lt q), hm.keep hk (fun q => hM (h2 b hm.lt q)), hu⟩
def RActIs (w : World) (M : Nat → Prop) (a : RAct) (v : Value) : Prop :=
  ∃ an pv tv, v = .agg #[.string a.uid.1, .string a.uid.2, pv, .map none, .int .u64 0, .map none, .int .u64 0, .map an, tv] ∧ UidSet w M a.parents pv ∧ RTo w M a.app tv
theorem RActIs.keep : Keeps RActIs := ⟨fun hk h2 h3 ⟨an, pv, tv, e1, hp, ht⟩ => ⟨an, pv, tv, e1, UidSet.keep.k hk h2 h3 hp, RTo.keep.k hk h2 h3 ht⟩⟩

/-- A group's identifier. -/
def parOf (ns : Str) (u : Uid) : Uid := if u.1 = ⟨#[]⟩ then (actionTy ns, u.2) else u
/-- The context, as far as so many steps tell. -/
def resCtx (V : Env) (n : Nat) (ns : Str) : Option ATy → Option (Option (List (Str × RTy × Bool)))
  | none => some (some [])
  | some t => (resTy V n ns t).map fun x => x.bind fun r => match r with | .record l => some l | _ => none
def resTo (V : Env) (n : Nat) (ns : Str) : Option (List Str × List Str × Option ATy) → Option (Option (Option (List Str × List Str × List (Str × RTy × Bool))))
  | none => some (some none)
  | some x => (resCtx V n ns x.2.2).map fun c => (x.1.mapM (entRef V ns)).bind fun ps => (x.2.1.mapM (entRef V ns)).bind fun rs => c.map fun l => some (ps, rs, l)
/-- What the declaration of an action is resolved to, as far as so many steps tell. -/
def resAct (V : Env) (n : Nat) (ns nm : Str) (a : AAct) : Option (Option RAct) :=
  (resTo V n ns a.app).map fun t => t.map fun x => ⟨(actionTy ns, nm), a.parents.map (parOf ns), x⟩
end Go.Proofs.YtedgonoeeeiilaaGreatDoor
