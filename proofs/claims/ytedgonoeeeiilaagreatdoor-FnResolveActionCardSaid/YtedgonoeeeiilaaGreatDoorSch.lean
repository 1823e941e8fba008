/- A whole schema: its data, how it lies in memory, and what its resolution makes. -/
import Derived.Test.YtedgonoeeeiilaaGreatDoorRa
namespace Go.Proofs.YtedgonoeeeiilaaGreatDoor
open Go.RowKit

/-- What one namespace declares. -/
structure SpD where
  en : List Str
  AE : Str → AEnt
  nn : List Str
  EN : Str → List Str
  cn : List Str
  CT : Str → ATy
  an : List Str
  AA : Str → AAct

structure SpIs (w : World) (M : Nat → Prop) (D : SpD) (me mn ma mc : Option Nat) (le ln la lc : List (Str × Value)) : Prop where
  m0 : KMapO Value.string w me le
  m1 : KMapO Value.string w mn ln
  m2 : KMapO Value.string w ma la
  m3 : KMapO Value.string w mc lc
  a0 : ∀ i, me = some i → ¬ M i
  a1 : ∀ i, mn = some i → ¬ M i
  a2 : ∀ i, ma = some i → ¬ M i
  a3 : ∀ i, mc = some i → ¬ M i
  k0 : le.map (·.1) = D.en
  k1 : ln.map (·.1) = D.nn
  k2 : la.map (·.1) = D.an
  k3 : lc.map (·.1) = D.cn
  ent : ∀ p ∈ le, p.1.size ≤ 1000000 ∧ AEntIs w M (D.AE p.1) p.2 ∧ (D.AE p.1).parents.length ≤ 1000000
  enum : ∀ p ∈ ln, p.1.size ≤ 1000000 ∧ AEnumIs w M (D.EN p.1) p.2 ∧ (D.EN p.1).length ≤ 1000000
  com : ∀ p ∈ lc, p.1.size ≤ 1000000 ∧ CommonIs w M (D.CT p.1) p.2
  act : ∀ p ∈ la, p.1.size ≤ 1000000 ∧ AActIs w M (D.AA p.1) p.2

theorem CommonIs.keep {w w' : World} {M M' M2 : Nat → Prop} {t : ATy} {v : Value} (h : CommonIs w M t v) (hk : Keep M2 w w') (h2 : ∀ i, i < w.heap.size → M2 i → M i) (h3 : ∀ i, i < w.heap.size → M' i → M i) : CommonIs w' M' t v := by
  obtain ⟨an, tv, e, h⟩ := h
  exact ⟨an, tv, e, ATyIs.keep hk h2 h3 h⟩
theorem KMapO.ltO {κ : Type} {enc : κ → Value} {w : World} {m : Option Nat} {l : List (κ × Value)} (h : KMapO enc w m l) : ∀ i, m = some i → i < w.heap.size := by
  intro i e; subst e; exact KMap.lt h
theorem SpIs.keep {w w' : World} {M M' M2 : Nat → Prop} {D : SpD} {me mn ma mc : Option Nat} {le ln la lc : List (Str × Value)} (h : SpIs w M D me mn ma mc le ln la lc) (hk : Keep M2 w w') (h2 : ∀ i, i < w.heap.size → M2 i → M i) (h3 : ∀ i, i < w.heap.size → M' i → M i) : SpIs w' M' D me mn ma mc le ln la lc :=
  ⟨h.m0.keep hk fun i e q => h.a0 i e (h2 i (h.m0.ltO i e) q), h.m1.keep hk fun i e q => h.a1 i e (h2 i (h.m1.ltO i e) q), h.m2.keep hk fun i e q => h.a2 i e (h2 i (h.m2.ltO i e) q), h.m3.keep hk fun i e q => h.a3 i e (h2 i (h.m3.ltO i e) q),
    fun i e q => h.a0 i e (h3 i (h.m0.ltO i e) q), fun i e q => h.a1 i e (h3 i (h.m1.ltO i e) q), fun i e q => h.a2 i e (h3 i (h.m2.ltO i e) q), fun i e q => h.a3 i e (h3 i (h.m3.ltO i e) q), h.k0, h.k1, h.k2, h.k3,
    fun p hp => ⟨(h.ent p hp).1, AEntIs.keep.k hk h2 h3 (h.ent p hp).2.1, (h.ent p hp).2.2⟩, fun p hp => ⟨(h.enum p hp).1, AEnumIs.keep.k hk h2 h3 (h.enum p hp).2.1, (h.enum p hp).2.2⟩, fun p hp => ⟨(h.com p hp).1, (h.com p hp).2.keep hk h2 h3⟩, fun p hp => ⟨(h.act p hp).1, AActIs.keep.k hk h2 h3 (h.act p hp).2⟩⟩

/-- A namespace's value. -/
def NsIs (w : World) (M : Nat → Prop) (D : SpD) (v : Value) : Prop := ∃ an me mn ma mc le ln la lc, v = .agg #[.map an, .map me, .map mn, .map ma, .map mc] ∧ SpIs w M D me mn ma mc le ln la lc
theorem NsIs.keep {w w' : World} {M M' M2 : Nat → Prop} {D : SpD} {v : Value} (h : NsIs w M D v) (hk : Keep M2 w w') (h2 : ∀ i, i < w.heap.size → M2 i → M i) (h3 : ∀ i, i < w.heap.size → M' i → M i) : NsIs w' M' D v := by
  obtain ⟨an, me, mn, ma, mc, le, ln, la, lc, e, h⟩ := h
  exact ⟨an, me, mn, ma, mc, le, ln, la, lc, e, h.keep hk h2 h3⟩

structure SchIs (w : World) (M : Nat → Prop) (b : Nat) (me mn ma mc ms : Option Nat) (le ln la lc ls : List (Str × Value)) (B : SpD) (D : Str → SpD) : Prop where
  c0 : w.cell? ⟨b, 0, none⟩ = some (.map me)
  c1 : w.cell? ⟨b, 1, none⟩ = some (.map mn)
  c2 : w.cell? ⟨b, 2, none⟩ = some (.map ma)
  c3 : w.cell? ⟨b, 3, none⟩ = some (.map mc)
  c4 : w.cell? ⟨b, 4, none⟩ = some (.map ms)
  nb : ¬ M b
  bare : SpIs w M B me mn ma mc le ln la lc
  m4 : KMapO Value.string w ms ls
  a4 : ∀ i, ms = some i → ¬ M i
  spaces : ∀ p ∈ ls, p.1.size ≤ 1000000 ∧ NsIs w M (D p.1) p.2
theorem SchIs.keep {w w' : World} {M M' M2 : Nat → Prop} {b : Nat} {me mn ma mc ms : Option Nat} {le ln la lc ls : List (Str × Value)} {B : SpD} {D : Str → SpD} (h : SchIs w M b me mn ma mc ms le ln la lc ls B D) (hk : Keep M2 w w') (h2 : ∀ i, i < w.heap.size → M2 i → M i) (h3 : ∀ i, i < w.heap.size → M' i → M i) : SchIs w' M' b me mn ma mc ms le ln la lc ls B D := by
  have lb : b < w.heap.size := block_lt_of_cell h.c0
  have hb : ¬ M2 b := fun q => h.nb (h2 b lb q)
  exact ⟨hk.cell h.c0 hb, hk.cell h.c1 hb, hk.cell h.c2 hb, hk.cell h.c3 hb, hk.cell h.c4 hb, fun q => h.nb (h3 b lb q), h.bare.keep hk h2 h3, h.m4.keep hk fun i e q => h.a4 i e (h2 i (h.m4.ltO i e) q), fun i e q => h.a4 i e (h3 i (h.m4.ltO i e) q), fun p hp => ⟨(h.spaces p hp).1, (h.spaces p hp).2.keep hk h2 h3⟩⟩

def SpD.names (D : SpD) : Names := ⟨D.en, D.nn, D.an, D.cn⟩
theorem SchIs.schemaV {w : World} {M : Nat → Prop} {b : Nat} {me mn ma mc ms : Option Nat} {le ln la lc ls : List (Str × Value)} {B : SpD} {D : Str → SpD} (h : SchIs w M b me mn ma mc ms le ln la lc ls B D) : SchemaV w M b me mn ma mc ms le ln la lc ls (fun s => (D s).names) := by
  refine ⟨h.c0, h.c1, h.c2, h.c3, h.c4, h.bare.m0, h.bare.m1, h.bare.m2, h.bare.m3, h.m4, fun p hp => ?_⟩
  obtain ⟨_, an, me, mn, ma, mc, le, ln, la, lc, e, h⟩ := h.spaces p hp
  exact ⟨an, me, mn, ma, mc, le, ln, la, lc, e, h.m0, h.m1, h.m2, h.m3, h.a0, h.a1, h.a2, h.a3, h.k0, h.k1, h.k2, h.k3⟩
theorem AEnumIs.enumV {w : World} {M : Nat → Prop} {l : List Str} {v : Value} (h : AEnumIs w M l v) : EnumV v := by
  obtain ⟨an, sv, rfl, ov, c, rfl, _⟩ := h
  exact ⟨an, ov, _, c, rfl⟩

/-! ### what is known -/
def dupIn (D : SpD) : Prop := ∃ n ∈ D.en, n ∈ D.nn
theorem dup_any {w : World} {M : Nat → Prop} {D : SpD} {me mn ma mc : Option Nat} {le ln la lc : List (Str × Value)} (h : SpIs w M D me mn ma mc le ln la lc) : le.any (fun p => (kget ln p.1).isSome) = true ↔ dupIn D := by
  unfold dupIn
  rw [← h.k0, ← h.k1, List.any_eq_true]
  constructor
  · rintro ⟨p, hp, h1⟩
    refine ⟨p.1, List.mem_map.2 ⟨p, hp, rfl⟩, ?_⟩
    unfold kget at h1
    simp only [Option.isSome_map, List.find?_isSome, decide_eq_true_eq] at h1
    obtain ⟨q, hq, e⟩ := h1
    exact List.mem_map.2 ⟨q, hq, e⟩
  · rintro ⟨n, h1, h2⟩
    obtain ⟨p, hp, rfl⟩ := List.mem_map.1 h1
    obtain ⟨q, hq, e⟩ := List.mem_map.1 h2
    refine ⟨p, hp, ?_⟩
    unfold kget
    simp only [Option.isSome_map, List.find?_isSome, decide_eq_true_eq]
    exact ⟨q, hq, e⟩

/-- The common types of a namespace. -/
def SpD.C0 (D : SpD) : List (Str × ATy) := D.cn.map fun n => (n, D.CT n)
theorem SpD.C0_mem {D : SpD} {n : Str} {t : ATy} : (n, t) ∈ D.C0 ↔ n ∈ D.cn ∧ t = D.CT n := by
  unfold SpD.C0
  rw [List.mem_map]
  constructor
  · rintro ⟨m, h, e⟩; cases e; exact ⟨h, rfl⟩
  · rintro ⟨h, rfl⟩; exact ⟨n, h, rfl⟩
theorem SpIs.C0 {w : World} {M : Nat → Prop} {D : SpD} {me mn ma mc : Option Nat} {le ln la lc : List (Str × Value)} (h : SpIs w M D me mn ma mc le ln la lc) : MapRel (CommonIs w M) D.C0 lc := by
  have hk : D.C0.map (·.1) = D.cn := by unfold SpD.C0; rw [List.map_map]; exact List.map_id _
  refine ⟨by rw [hk, ← h.k3]; exact h.m3.nodup, ?_, fun n t hn => ?_⟩
  · have h1 := congrArg List.length hk
    have h2 := congrArg List.length h.k3
    simp only [List.length_map] at h1 h2
    omega
  · obtain ⟨h1, rfl⟩ := SpD.C0_mem.1 hn
    rw [← h.k3] at h1
    obtain ⟨p, hp, rfl⟩ := List.mem_map.1 h1
    exact ⟨p.2, hp, (h.com p hp).2⟩

/-- What stands for a whole name of a common type. -/
def ComOf (B : SpD) (D : Str → SpD) (S : Str → Prop) (x : Str) (t : ATy) : Prop := (x ∈ B.cn ∧ t = B.CT x) ∨ ∃ s, S s ∧ ∃ n ∈ (D s).cn, x = qual s n ∧ t = (D s).CT n
/-- What is declared, where the names of S and no others have been registered. -/
structure EnvIs (B : SpD) (D : Str → SpD) (S : Str → Prop) (V : Env) : Prop where
  back : ∀ x t, kget V.C x = some t → ComOf B D S x t
  has : ∀ x t, ComOf B D S x t → (kget V.C x).isSome = true
  ents : ∀ x, x ∈ V.E ↔ x ∈ B.en ∨ ∃ s, S s ∧ ∃ n ∈ (D s).en, x = qual s n
  enums : ∀ x, x ∈ V.N ↔ x ∈ B.nn ∨ ∃ s, S s ∧ ∃ n ∈ (D s).nn, x = qual s n

theorem kget_nil_of {α : Type} {l : List (Str × α)} (h : ∀ x, kget l x = none) : l = [] := by
  cases l with
  | nil => rfl
  | cons p l => have := h p.1; unfold kget at this; simp at this

theorem EnvAdd.env {V V' : Env} {B : SpD} {D : Str → SpD} {S S' : Str → Prop} {s : Str} (h : EnvIs B D S V) (ha : EnvAdd V s (D s).en (D s).nn (D s).C0 V') (hS : ∀ x, S' x ↔ x = s ∨ S x) : EnvIs B D S' V' := by
  refine ⟨fun x t hx => ?_, fun x t hx => ?_, fun x => ?_, fun x => ?_⟩
  · by_cases hc : ∃ n u, (n, u) ∈ (D s).C0 ∧ x = qual s n
    · obtain ⟨n, u, hn, rfl⟩ := hc
      rw [ha.C n u hn] at hx
      cases hx
      obtain ⟨h1, h2⟩ := SpD.C0_mem.1 hn
      exact .inr ⟨s, (hS s).2 (.inl rfl), n, h1, rfl, h2⟩
    · rw [ha.old x (fun n u hn e => hc ⟨n, u, hn, e⟩)] at hx
      rcases h.back x t hx with h1 | ⟨q, h1, h2⟩
      · exact .inl h1
      · exact .inr ⟨q, (hS q).2 (.inr h1), h2⟩
  · by_cases hc : ∃ n u, (n, u) ∈ (D s).C0 ∧ x = qual s n
    · obtain ⟨n, u, hn, rfl⟩ := hc
      rw [ha.C n u hn]; rfl
    · rw [ha.old x (fun n u hn e => hc ⟨n, u, hn, e⟩)]
      rcases hx with h1 | ⟨q, h1, h2⟩
      · exact h.has x t (.inl h1)
      · rcases (hS q).1 h1 with rfl | h1
        · obtain ⟨n, hn, e, _⟩ := h2
          exact (hc ⟨n, _, SpD.C0_mem.2 ⟨hn, rfl⟩, e⟩).elim
        · exact h.has x t (.inr ⟨q, h1, h2⟩)
  · rw [ha.E, h.ents]
    constructor
    · rintro ((h | ⟨q, h1, h2⟩) | h)
      · exact .inl h
      · exact .inr ⟨q, (hS q).2 (.inr h1), h2⟩
      · exact .inr ⟨s, (hS s).2 (.inl rfl), h⟩
    · rintro (h | ⟨q, h1, h2⟩)
      · exact .inl (.inl h)
      · rcases (hS q).1 h1 with rfl | h1
        · exact .inr h2
        · exact .inl (.inr ⟨q, h1, h2⟩)
  · rw [ha.N, h.enums]
    constructor
    · rintro ((h | ⟨q, h1, h2⟩) | h)
      · exact .inl h
      · exact .inr ⟨q, (hS q).2 (.inr h1), h2⟩
      · exact .inr ⟨s, (hS s).2 (.inl rfl), h⟩
    · rintro (h | ⟨q, h1, h2⟩)
      · exact .inl (.inl h)
      · rcases (hS q).1 h1 with rfl | h1
        · exact .inr h2
        · exact .inl (.inr ⟨q, h1, h2⟩)
theorem EnvAdd.env0 {V' : Env} {B : SpD} {D : Str → SpD} {S : Str → Prop} (ha : EnvAdd ⟨[], [], []⟩ ⟨#[]⟩ B.en B.nn B.C0 V') (hS : ∀ s, ¬ S s) : EnvIs B D S V' := by
  have hq : ∀ n, qual ⟨#[]⟩ n = n := fun n => if_pos rfl
  refine ⟨fun x t hx => ?_, fun x t hx => ?_, fun x => ?_, fun x => ?_⟩
  · by_cases hc : ∃ n u, (n, u) ∈ B.C0 ∧ x = qual ⟨#[]⟩ n
    · obtain ⟨n, u, hn, e⟩ := hc
      rw [hq] at e
      subst e
      have h0 := ha.C x u hn
      rw [hq] at h0
      rw [h0] at hx
      cases hx
      obtain ⟨h1, h2⟩ := SpD.C0_mem.1 hn
      exact .inl ⟨h1, h2⟩
    · rw [ha.old x (fun n u hn e => hc ⟨n, u, hn, e⟩)] at hx
      cases hx
  · rcases hx with ⟨h1, h2⟩ | ⟨s, h1, _⟩
    · have := ha.C x _ (SpD.C0_mem.2 ⟨h1, rfl⟩)
      rw [hq] at this
      rw [this]; rfl
    · exact (hS s h1).elim
  · rw [ha.E]
    simp [hq, hS]
  · rw [ha.N]
    simp [hq, hS]

/-! ### what has been made -/
structure Made {κ β : Type} [DecidableEq κ] (P : κ → β → Prop) (R : List (κ × β)) : Prop where
  back : ∀ x y, kget R x = some y → P x y
  has : ∀ x y, P x y → (kget R x).isSome = true
theorem Made.nil {κ β : Type} [DecidableEq κ] {P : κ → β → Prop} (h : ∀ x y, ¬ P x y) : Made P [] := ⟨fun _ _ h => by simp [kget] at h, fun x y hp => (h x y hp).elim⟩
theorem Made.add {κ β : Type} [DecidableEq κ] {P Q : κ → β → Prop} {R R' : List (κ × β)} {kf : Str → κ} {F : Str → β} {names : List Str} (h : Made P R) (ha : Added kf F names R R') (hQ : ∀ x y, Q x y ↔ P x y ∨ ∃ n ∈ names, x = kf n ∧ y = F n) : Made Q R' := by
  constructor
  · intro x y hx
    rw [hQ]
    by_cases hn : ∃ n ∈ names, x = kf n
    · obtain ⟨n, h1, rfl⟩ := hn
      rw [ha.done n h1, Option.some.injEq] at hx
      exact .inr ⟨n, h1, rfl, hx.symm⟩
    · rw [ha.rest x (fun n h1 e => hn ⟨n, h1, e⟩)] at hx
      exact .inl (h.back x y hx)
  · intro x y hp
    by_cases hn : ∃ n ∈ names, x = kf n
    · obtain ⟨n, h1, rfl⟩ := hn
      rw [ha.done n h1]; rfl
    · rw [ha.rest x (fun n h1 e => hn ⟨n, h1, e⟩)]
      rcases (hQ x y).1 hp with h1 | ⟨n, h1, h2, _⟩
      · exact h.has x y h1
      · exact (hn ⟨n, h1, h2⟩).elim
def REntOf (V : Env) (fuel : Nat) (ns n : Str) (ae : AEnt) : REnt := ((resEnt V fuel ns n ae).getD none).getD default
/-- The entity types that are made where S's namespaces are done. -/
def EntsOf (V : Env) (fuel : Nat) (B : SpD) (D : Str → SpD) (S : Str → Prop) (x : Str) (y : REnt) : Prop :=
  (∃ n ∈ B.en, x = qual ⟨#[]⟩ n ∧ y = REntOf V fuel ⟨#[]⟩ n (B.AE n)) ∨ ∃ s, S s ∧ ∃ n ∈ (D s).en, x = qual s n ∧ y = REntOf V fuel s n ((D s).AE n)
def EnumsOf (B : SpD) (D : Str → SpD) (S : Str → Prop) (x : Str) (y : Str × List Str) : Prop :=
  (∃ n ∈ B.nn, x = qual ⟨#[]⟩ n ∧ y = (qual ⟨#[]⟩ n, B.EN n)) ∨ ∃ s, S s ∧ ∃ n ∈ (D s).nn, x = qual s n ∧ y = (qual s n, (D s).EN n)
def RActOf (V : Env) (fuel : Nat) (ns n : Str) (a : AAct) : RAct := ((resAct V fuel ns n a).getD none).getD default
/-- The actions that are made where S's namespaces are done. -/
def ActsOf (V : Env) (fuel : Nat) (B : SpD) (D : Str → SpD) (S : Str → Prop) (x : Uid) (y : RAct) : Prop :=
  (∃ n ∈ B.an, x = actU ⟨#[]⟩ n ∧ y = RActOf V fuel ⟨#[]⟩ n (B.AA n)) ∨ ∃ s, S s ∧ ∃ n ∈ (D s).an, x = actU s n ∧ y = RActOf V fuel s n ((D s).AA n)
theorem or_step {S S' : Str → Prop} {s : Str} {A : Prop} {T : Str → Prop} (hS : ∀ x, S' x ↔ x = s ∨ S x) : (A ∨ ∃ q, S' q ∧ T q) ↔ (A ∨ ∃ q, S q ∧ T q) ∨ T s := by
  constructor
  · rintro (h | ⟨q, h1, h2⟩)
    · exact .inl (.inl h)
    · rcases (hS q).1 h1 with rfl | h1
      · exact .inr h2
      · exact .inl (.inr ⟨q, h1, h2⟩)
  · rintro ((h | ⟨q, h1, h2⟩) | h)
    · exact .inl h
    · exact .inr ⟨q, (hS q).2 (.inr h1), h2⟩
    · exact .inr ⟨s, (hS s).2 (.inl rfl), h⟩

/-- The keys that a loop has met. -/
def Met (l left : List (Str × Value)) (s : Str) : Prop := ∃ p ∈ l, p.1 ∉ left.map (·.1) ∧ s = p.1
theorem Met.start (l : List (Str × Value)) (s : Str) : ¬ Met l l s := fun ⟨p, hp, h, _⟩ => h (List.mem_map.2 ⟨p, hp, rfl⟩)
theorem Met.step {l left left' : List (Str × Value)} {p : Str × Value} (hp : left.Perm (p :: left')) (hsub : left.Sublist l) (hn : (l.map (·.1)).Nodup) (x : Str) : Met l left' x ↔ x = p.1 ∨ Met l left x := by
  obtain ⟨hkeys, hnew, _⟩ := perm_keys hp ((hsub.map _).nodup hn)
  have hpm : p ∈ l := hsub.subset (hp.mem_iff.2 (.head _))
  constructor
  · rintro ⟨q, hq, h1, rfl⟩
    by_cases e : q.1 = p.1
    · exact .inl e
    · exact .inr ⟨q, hq, fun h => ((hkeys _).1 h).elim e h1, rfl⟩
  · rintro (rfl | ⟨q, hq, h1, rfl⟩)
    · exact ⟨p, hpm, hnew, rfl⟩
    · exact ⟨q, hq, fun h => h1 ((hkeys _).2 (.inr h)), rfl⟩
theorem Met.over {l : List (Str × Value)} (s : Str) : Met l [] s ↔ s ∈ l.map (·.1) :=
  ⟨fun ⟨p, hp, _, e⟩ => e ▸ List.mem_map.2 ⟨p, hp, rfl⟩, fun h => by obtain ⟨p, hp, rfl⟩ := List.mem_map.1 h; exact ⟨p, hp, by simp, rfl⟩⟩
end Go.Proofs.YtedgonoeeeiilaaGreatDoor
