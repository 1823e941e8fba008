/- Plain functions on names and types of a schema: what the resolver computes; no program in sight. -/
import Derived.MapKept
import Derived.Laws.Strings
import Derived.Lib.LastIndexLaws
import Derived.Lib.Strings
import Derived.Test.YtjclpmgfcaadmaaGreatDoorMap
namespace Go.Proofs.YtjclpmgfcaadmaaGreatDoor

abbrev Str := ByteArray
instance lawfulBytes : LawfulBEq ByteArray where
  eq_of_beq h := (MapKept.bytes_beq _ _).1 h
  rfl := (MapKept.bytes_beq _ _).2 rfl

/-! ### strings -/
theorem isEmpty_iff (s : Str) : s.toList.isEmpty = true ↔ s = ByteArray.empty := by
  rw [ByteArray.toList_eq, List.isEmpty_iff]
  constructor
  · intro h; exact ByteArray.ext (Array.toList_inj.1 h)
  · intro h; rw [h]; rfl
theorem ne_empty {s : Str} (h : s ≠ ByteArray.empty) : s.toList.isEmpty = false := by
  rw [Bool.eq_false_iff]; exact fun e => h ((isEmpty_iff s).1 e)
theorem toList_beq {a b : Str} : (a.toList == b.toList) = true ↔ a = b := by
  rw [beq_iff_eq]
  constructor
  · intro h
    rw [ByteArray.toList_eq, ByteArray.toList_eq] at h
    exact ByteArray.ext (Array.toList_inj.1 h)
  · intro h; rw [h]

theorem beq_lit (s : Str) (l : List UInt8) : (s.toList == l) = decide (s = ⟨l.toArray⟩) := by
  by_cases h : s = ⟨l.toArray⟩
  · subst h
    rw [decide_eq_true rfl, beq_iff_eq, ByteArray.toList_eq]
  · rw [decide_eq_false h, beq_eq_false_iff_ne]
    intro e
    apply h
    rw [← e, ByteArray.toList_eq]

/-- sub stands in s at place i -/
def subAt (s sub : Str) (i : Nat) : Bool := decide (i + sub.size ≤ s.size ∧ s.extract i (i + sub.size) = sub)
def hasSub (s sub : Str) : Bool := (List.range (s.size + 1)).any (subAt s sub)
theorem hasSub_iff (s sub : Str) : hasSub s sub = true ↔ ∃ i, subAt s sub i = true := by
  unfold hasSub
  rw [List.any_eq_true]
  constructor
  · rintro ⟨i, _, h⟩; exact ⟨i, h⟩
  · rintro ⟨i, h⟩
    refine ⟨i, ?_, h⟩
    unfold subAt at h
    have := of_decide_eq_true h
    rw [List.mem_range]
    omega
theorem subAt_of_beq {s sub : Str} {j : Nat} (h1 : (j : Int) + (sub.size : Int) ≤ (s.size : Int)) {b : Bool} (h2 : ((s.extract j (j + sub.size)).toList == sub.toList) = b) : subAt s sub j = b := by
  unfold subAt
  cases b with
  | true => exact decide_eq_true ⟨by omega, toList_beq.1 h2⟩
  | false => exact decide_eq_false fun h => by rw [toList_beq.2 h.2] at h2; cases h2

/-- the whole name of something in a namespace -/
def qual (ns nm : Str) : Str := if ns = ByteArray.empty then nm else ns ++ ⟨#[58, 58]⟩ ++ nm

/-! ### types of a schema -/
inductive ATy where
  | str | long | bool
  | ext (s : Str)
  | set (t : ATy)
  | record (l : List (Str × ATy × Bool))
  | ent (s : Str)
  | ref (s : Str)
inductive RTy where
  | str | long | bool
  | ext (s : Str)
  | set (t : RTy)
  | record (l : List (Str × RTy × Bool))
  | ent (s : Str)
  deriving Inhabited

/-- what is declared: entity types, enumerations, common types, by whole names -/
structure Env where
  E : List Str
  N : List Str
  C : List (Str × ATy)

def Env.known (V : Env) (x : Str) : Prop := x ∈ V.E ∨ x ∈ V.N
instance (V : Env) (x : Str) : Decidable (V.known x) := inferInstanceAs (Decidable (x ∈ V.E ∨ x ∈ V.N))

/-- what a name of an entity type stands for -/
def entRef (V : Env) (ns ref : Str) : Option Str :=
  if hasSub ref ⟨#[58, 58]⟩ = true then if V.known ref then some ref else none
  else if ¬ ns = ByteArray.empty ∧ V.known (qual ns ref) then some (qual ns ref)
  else if V.known ref then some ref else none

/-- the types of the language -/
def builtinTy (s : Str) : Option RTy :=
  if s = ⟨#[83, 116, 114, 105, 110, 103]⟩ then some .str
  else if s = ⟨#[76, 111, 110, 103]⟩ then some .long
  else if s = ⟨#[66, 111, 111, 108]⟩ ∨ s = ⟨#[66, 111, 111, 108, 101, 97, 110]⟩ then some .bool
  else if s = ⟨#[105, 112, 97, 100, 100, 114]⟩ ∨ s = ⟨#[100, 101, 99, 105, 109, 97, 108]⟩ ∨ s = ⟨#[100, 97, 116, 101, 116, 105, 109, 101]⟩ ∨ s = ⟨#[100, 117, 114, 97, 116, 105, 111, 110]⟩ then some (.ext s)
  else none

/-- what stands ahead of the last two colons -/
def nsOf (s : Str) : Str :=
  if 0 ≤ Lib.lastIndex s.data.toList [58, 58] then s.extract 0 (Lib.lastIndex s.data.toList [58, 58]).toNat else ⟨#[]⟩

def resRec (f : ATy → Option (Option RTy)) (l : List (Str × ATy × Bool)) : Option (Option RTy) :=
  (l.mapM (fun p : Str × ATy × Bool => (f p.2.1).map fun r => (p.1, r, p.2.2))).map fun (l' : List (Str × Option RTy × Bool)) => (l'.mapM (fun p : Str × Option RTy × Bool => p.2.1.map fun r => (p.1, r, p.2.2))).map RTy.record

/-- a name with colons in it -/
def resQual (V : Env) (f : Str → ATy → Option (Option RTy)) (s : Str) : Option (Option RTy) :=
  if Lib.hasPrefix s.data.toList [95, 95, 99, 101, 100, 97, 114, 58, 58] = true then some (builtinTy (s.extract 9 s.size))
  else match kget V.C s with
    | some ct => f (nsOf s) ct
    | none => some (if V.known s then some (.ent s) else none)

/-- a name without -/
def resBare (V : Env) (f : Str → ATy → Option (Option RTy)) (ns s : Str) : Option (Option RTy) :=
  match (if ns = ByteArray.empty then none else kget V.C (qual ns s)) with
  | some ct => f ns ct
  | none =>
    if ¬ ns = ByteArray.empty ∧ V.known (qual ns s) then some (some (.ent (qual ns s)))
    else match kget V.C s with
      | some ct => f ⟨#[]⟩ ct
      | none => some (if V.known s then some (.ent s) else builtinTy s)

/-- what a type stands for, as far as so many steps tell -/
def resTy (V : Env) : Nat → Str → ATy → Option (Option RTy)
  | 0, _, _ => none
  | _ + 1, _, .str => some (some .str)
  | _ + 1, _, .long => some (some .long)
  | _ + 1, _, .bool => some (some .bool)
  | _ + 1, _, .ext s => some (some (.ext s))
  | n + 1, ns, .set t => (resTy V n ns t).map (Option.map RTy.set)
  | n + 1, ns, .record l => resRec (resTy V n ns) l
  | _ + 1, ns, .ent s => some ((entRef V ns s).map RTy.ent)
  | n + 1, ns, .ref s => if hasSub s ⟨#[58, 58]⟩ = true then resQual V (resTy V n) s else resBare V (resTy V n) ns s

theorem mapM_some {α β : Type} {f : α → Option β} : ∀ {l : List α} {l' : List β}, l.mapM f = some l' → (∀ x ∈ l, ∃ y ∈ l', f x = some y) ∧ (∀ y ∈ l', ∃ x ∈ l, f x = some y) ∧ l'.length = l.length
  | [], l', h => by
    simp at h; subst h; simp
  | x :: l, l', h => by
    rw [List.mapM_cons] at h
    simp only [Option.bind_eq_bind, Option.bind_eq_some_iff, Option.pure_def, Option.some.injEq] at h
    obtain ⟨y, hy, l2, hl2, rfl⟩ := h
    obtain ⟨h1, h2, h3⟩ := mapM_some hl2
    refine ⟨fun z hz => ?_, fun z hz => ?_, by simp [h3]⟩
    · rcases List.mem_cons.1 hz with rfl | hz
      · exact ⟨y, .head _, hy⟩
      · obtain ⟨q, hq, e⟩ := h1 z hz; exact ⟨q, .tail _ hq, e⟩
    · rcases List.mem_cons.1 hz with rfl | hz
      · exact ⟨x, .head _, hy⟩
      · obtain ⟨q, hq, e⟩ := h2 z hz; exact ⟨q, .tail _ hq, e⟩
theorem mapM_none {α β : Type} {f : α → Option β} : ∀ {l : List α}, l.mapM f = none → ∃ x ∈ l, f x = none
  | [], h => by simp at h
  | x :: l, h => by
    rw [List.mapM_cons] at h
    cases hx : f x with
    | none => exact ⟨x, .head _, hx⟩
    | some y =>
      cases hl : l.mapM f with
      | none => obtain ⟨z, hz, e⟩ := mapM_none hl; exact ⟨z, .tail _ hz, e⟩
      | some l2 => simp [hx, hl] at h

theorem resRec_some {f : ATy → Option (Option RTy)} {l : List (Str × ATy × Bool)} {r : Option RTy} (h : resRec f l = some r) :
    (∀ k t o, (k, t, o) ∈ l → ∃ x, f t = some x) ∧ ((∃ k t o, (k, t, o) ∈ l ∧ f t = some none) → r = none) ∧
    ((∀ k t o, (k, t, o) ∈ l → ∃ x, f t = some (some x)) → ∃ l', r = some (.record l') ∧ l'.map (·.1) = l.map (·.1) ∧ ∀ k x o, (k, x, o) ∈ l' → ∃ t, (k, t, o) ∈ l ∧ f t = some (some x)) := by
  unfold resRec at h
  cases h1 : l.mapM (fun p : Str × ATy × Bool => (f p.2.1).map fun r => (p.1, r, p.2.2)) with
  | none => rw [h1] at h; cases h
  | some l1 =>
    rw [h1] at h
    simp only [Option.map_some, Option.some.injEq] at h
    obtain ⟨a1, a2, a3⟩ := mapM_some h1
    refine ⟨fun k t o hm => ?_, ?_, ?_⟩
    · obtain ⟨y, _, e⟩ := a1 _ hm
      cases hf : f t with
      | none => rw [hf] at e; cases e
      | some x => exact ⟨x, rfl⟩
    · rintro ⟨k, t, o, hm, hf⟩
      obtain ⟨y, hy, e⟩ := a1 _ hm
      rw [hf] at e
      simp only [Option.map_some, Option.some.injEq] at e
      cases h2 : l1.mapM (fun p : Str × Option RTy × Bool => p.2.1.map fun r => (p.1, r, p.2.2)) with
      | none => rw [h2] at h; exact h.symm
      | some l2 =>
        obtain ⟨b1, _, _⟩ := mapM_some h2
        obtain ⟨z, _, e2⟩ := b1 _ hy
        rw [← e] at e2; cases e2
    · intro hall
      cases h2 : l1.mapM (fun p : Str × Option RTy × Bool => p.2.1.map fun r => (p.1, r, p.2.2)) with
      | none =>
        obtain ⟨y, hy, e⟩ := mapM_none h2
        obtain ⟨⟨k, t, o⟩, hm, e1⟩ := a2 _ hy
        obtain ⟨x, hx⟩ := hall k t o hm
        rw [hx] at e1
        simp only [Option.map_some, Option.some.injEq] at e1
        rw [← e1] at e; cases e
      | some l2 =>
        rw [h2] at h
        refine ⟨l2, h.symm, ?_, ?_⟩
        · have keys : ∀ {α β γ : Type} (g : Str × α → Option (Str × β)) (_ : ∀ p q, g p = some q → q.1 = p.1) (L : List (Str × α)) (L' : List (Str × β)), L.mapM g = some L' → L'.map (·.1) = L.map (·.1) := by
            intro α β γ g hg L
            induction L with
            | nil => intro L' h; simp at h; subst h; rfl
            | cons p L ih =>
              intro L' h
              rw [List.mapM_cons] at h
              simp only [Option.bind_eq_bind, Option.bind_eq_some_iff, Option.pure_def, Option.some.injEq] at h
              obtain ⟨y, hy, l2, hl2, rfl⟩ := h
              simp [hg p y hy, ih l2 hl2]
          rw [keys (γ := Unit) _ (fun p q e => by
            obtain ⟨a, b, c⟩ := p
            cases b with
            | none => cases e
            | some x => simp only [Option.map_some, Option.some.injEq] at e; rw [← e]) l1 l2 h2]
          exact keys (γ := Unit) _ (fun p q e => by
            obtain ⟨a, b, c⟩ := p
            cases hb : f b with
            | none => simp [hb] at e
            | some x => simp only [hb, Option.map_some, Option.some.injEq] at e; rw [← e]) l l1 h1
        · intro k x o hm
          obtain ⟨_, b2, _⟩ := mapM_some h2
          obtain ⟨⟨k1, x1, o1⟩, hm1, e1⟩ := b2 _ hm
          cases x1 with
          | none => cases e1
          | some x1 =>
            simp only [Option.map_some, Option.some.injEq, Prod.mk.injEq] at e1
            obtain ⟨rfl, rfl, rfl⟩ := e1
            obtain ⟨⟨k2, t2, o2⟩, hm2, e2⟩ := a2 _ hm1
            cases hf : f t2 with
            | none => simp [hf] at e2
            | some y =>
              simp only [hf, Option.map_some, Option.some.injEq, Prod.mk.injEq] at e2
              obtain ⟨rfl, rfl, rfl⟩ := e2
              exact ⟨t2, hm2, hf⟩

end Go.Proofs.YtjclpmgfcaadmaaGreatDoor
