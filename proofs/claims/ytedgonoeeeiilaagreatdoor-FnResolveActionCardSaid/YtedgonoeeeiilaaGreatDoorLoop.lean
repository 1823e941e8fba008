/- Loops over a map that fill a set of names, or look each name up in one: what holds at each round; no walk. -/
import Derived.Test.YtedgonoeeeiilaaGreatDoorWe
namespace Go.Proofs.YtedgonoeeeiilaaGreatDoor
open Go.RowKit

theorem KIter.lt {κ : Type} {enc : κ → Value} {w : World} {m : Option Nat} {r : Nat} {l left : List (κ × Value)} (h : KIter enc w m r l left) : r < w.heap.size := by
  cases m with
  | none => exact (Array.getElem?_eq_some_iff.1 h.2.2).1
  | some b => obtain ⟨_, _, _, _, _, _, _, _, _, hi, _⟩ := h; exact (Array.getElem?_eq_some_iff.1 hi).1
theorem KIter.ne_map {κ κ' : Type} {enc : κ → Value} {enc' : κ' → Value} {w : World} {m : Option Nat} {r b : Nat} {l left : List (κ × Value)} {l' : List (κ' × Value)} (h : KIter enc w m r l left) (hm : KMap enc' w b l') : r ≠ b := by
  intro e
  subst e
  obtain ⟨es, clock, hb, _⟩ := hm
  cases m with
  | none => have := h.2.2; rw [hb] at this; cases this
  | some b => obtain ⟨_, _, _, _, _, _, _, _, _, hi, _⟩ := h; rw [hb] at hi; cases hi

/-- Filling: the set B' in block mB holds B0 and the names that have been met. -/
structure Fill (wb wr : World) (m : Option Nat) (r mB : Nat) (l : List (Str × Value)) (B0 : List Str) (left : List (Str × Value)) (B' : List Str) : Prop where
  it : KIter Value.string wr m r l left
  keep : Keep (· = mB) wb wr
  le : wb.heap.size ≤ r
  old : mB < wb.heap.size
  apart : ∀ i, m = some i → i ≠ mB
  set : BSet wr mB B'
  mem : ∀ x, x ∈ B' ↔ x ∈ B0 ∨ ∃ p ∈ l, p.1 ∉ left.map (·.1) ∧ x = p.1

theorem Fill.start {wb : World} {m : Option Nat} {mB : Nat} {l : List (Str × Value)} {B0 : List Str} {o : Obj} (it : KIter Value.string (wb.alloc o) m wb.heap.size l l) (apart : ∀ i, m = some i → i ≠ mB) (set : BSet wb mB B0) : Fill wb (wb.alloc o) m wb.heap.size mB l B0 l B0 :=
  ⟨it, Keep.alloc _ _ _, Nat.le_refl _, set.lt, apart, set.keep (Keep.alloc _ _ NoB) (NoB.not _), fun _ => ⟨.inl, fun h => h.elim id fun ⟨p, hp, h1, _⟩ => (h1 (List.mem_map.2 ⟨p, hp, rfl⟩)).elim⟩⟩

theorem Fill.step {wb wr w' : World} {m : Option Nat} {r mB : Nat} {l left left' : List (Str × Value)} {B0 B' : List Str} {p : Str × Value} (h : Fill wb wr m r mB l B0 left B') (hp : left.Perm (p :: left')) (hit' : KIter Value.string w' m r l left') (hk' : Keep (· = r) wr w') {o : Obj}
    (hB3 : BSet (ChangeMaps.setBlock w' mB o) mB (sins B' p.1)) : Fill wb (ChangeMaps.setBlock w' mB o) m r mB l B0 left' (sins B' p.1) := by
  have k3 : Keep (· = mB) w' (ChangeMaps.setBlock w' mB o) := Keep.setBlock _ _ _ (fun _ => rfl)
  have hpm : p ∈ l := h.it.sub.subset (hp.mem_iff.2 (.head _))
  obtain ⟨hkeys, hnew, _⟩ := perm_keys hp ((h.it.sub.map _).nodup h.it.map.nodup)
  have hle := h.le
  have hold := h.old
  refine ⟨hit'.keep k3 h.apart (fun e => by omega), (h.keep.trans hk' (M'' := (· = mB)) (fun _ _ h => h) (fun i hi e => by subst e; omega)).trans k3 (fun _ _ h => h) (fun _ _ h => h), h.le, h.old, h.apart, hB3, fun x => ?_⟩
  rw [mem_sins, h.mem]
  constructor
  · rintro ((h | ⟨q, hq, h1, h2⟩) | h)
    · exact .inl h
    · exact .inr ⟨q, hq, fun h3 => h1 ((hkeys _).2 (.inr h3)), h2⟩
    · exact .inr ⟨_, hpm, hnew, h⟩
  · rintro (h | ⟨q, hq, h1, h2⟩)
    · exact .inl (.inl h)
    · by_cases hqk : q.1 = p.1
      · exact .inr (by rw [h2, hqk])
      · exact .inl (.inr ⟨q, hq, fun h3 => ((hkeys _).1 h3).elim hqk h1, h2⟩)
theorem Fill.set' {wb wr w' : World} {m : Option Nat} {r mB : Nat} {l left : List (Str × Value)} {B0 B' : List Str} (h : Fill wb wr m r mB l B0 left B') (hk' : Keep (· = r) wr w') : BSet w' mB B' :=
  h.set.keep hk' (fun e => by have := h.le; have := h.old; omega)
theorem Fill.done {wb wr : World} {m : Option Nat} {r mB : Nat} {l : List (Str × Value)} {B0 B' : List Str} (h : Fill wb wr m r mB l B0 [] B') : ∀ x, x ∈ B' ↔ x ∈ B0 ∨ x ∈ l.map (·.1) := by
  intro x
  rw [h.mem]
  constructor
  · rintro (h | ⟨p, hp, _, rfl⟩)
    · exact .inl h
    · exact .inr (List.mem_map.2 ⟨p, hp, rfl⟩)
  · rintro (h | h)
    · exact .inl h
    · obtain ⟨p, hp, rfl⟩ := List.mem_map.1 h
      exact .inr ⟨p, hp, by simp, rfl⟩

/-- Looking: Q holds of all names that have been met. -/
structure Look (wb wr : World) (m : Option Nat) (r : Nat) (l : List (Str × Value)) (Q : Str → Prop) (left : List (Str × Value)) : Prop where
  it : KIter Value.string wr m r l left
  keep : Keep NoB wb wr
  le : wb.heap.size ≤ r
  all : ∀ p ∈ l, p.1 ∉ left.map (·.1) → Q p.1

theorem Look.start {wb : World} {m : Option Nat} {l : List (Str × Value)} {Q : Str → Prop} {o : Obj} (it : KIter Value.string (wb.alloc o) m wb.heap.size l l) : Look wb (wb.alloc o) m wb.heap.size l Q l :=
  ⟨it, Keep.alloc _ _ _, Nat.le_refl _, fun p hp h => (h (List.mem_map.2 ⟨p, hp, rfl⟩)).elim⟩
theorem Look.keep' {wb wr w' : World} {m : Option Nat} {r : Nat} {l left : List (Str × Value)} {Q : Str → Prop} (h : Look wb wr m r l Q left) (hk' : Keep (· = r) wr w') : Keep NoB wb w' :=
  h.keep.trans hk' (fun _ _ h => h) (fun i hi e => by have := h.le; subst e; omega)
theorem Look.step {wb wr w' w2 : World} {m : Option Nat} {r : Nat} {l left left' : List (Str × Value)} {Q : Str → Prop} {p : Str × Value} (h : Look wb wr m r l Q left) (hp : left.Perm (p :: left')) (hit' : KIter Value.string w' m r l left') (hk' : Keep (· = r) wr w') (hk2 : Keep NoB w' w2) (hn : Q p.1) : Look wb w2 m r l Q left' := by
  obtain ⟨hkeys, hnew, _⟩ := perm_keys hp ((h.it.sub.map _).nodup h.it.map.nodup)
  refine ⟨hit'.keep hk2 (fun _ _ h => h) (fun h => h), (h.keep' hk').then hk2, h.le, fun q hq hq2 => ?_⟩
  by_cases hqk : q.1 = p.1
  · rw [hqk]; exact hn
  · exact h.all q hq (fun h3 => ((hkeys _).1 h3).elim hqk hq2)
theorem Look.done {wb wr : World} {m : Option Nat} {r : Nat} {l : List (Str × Value)} {Q : Str → Prop} (h : Look wb wr m r l Q []) : ∀ x ∈ l.map (·.1), Q x := by
  intro x hx
  obtain ⟨p, hp, rfl⟩ := List.mem_map.1 hx
  exact h.all p hp (by simp)
theorem Look.mem {wb wr : World} {m : Option Nat} {r : Nat} {l left left' : List (Str × Value)} {Q : Str → Prop} {p : Str × Value} (h : Look wb wr m r l Q left) (hp : left.Perm (p :: left')) : p ∈ l := h.it.sub.subset (hp.mem_iff.2 (.head _))

theorem BSet.updateT {w : World} {b : Nat} {l : List Str} (h : BSet w b l) {T kt : TypeId} (hT : Tryz.prog.underlying T = some (.map kt 4)) (hk : Tryz.prog.underlying kt = some .string) (x : Str) :
    ∃ o, (Instr.mapUpdate T (.map (some b)) (.string x) (.bool true)).run Tryz.prog w = .ok () (ChangeMaps.setBlock w b o) ∧ BSet (ChangeMaps.setBlock w b o) b (sins l x) := by
  obtain ⟨o, h1, h2⟩ := KMap.update h (strKey hk) hT x (.bool true)
  exact ⟨o, h1, by unfold BSet; rw [← kput_set]; exact h2⟩
theorem BSet.lookupT {w : World} {b : Nat} {l : List Str} (h : BSet w b l) {T kt : TypeId} (hT : Tryz.prog.underlying T = some (.map kt 4)) (hk : Tryz.prog.underlying kt = some .string) (x : Str) :
    (Instr.lookup T (.map (some b)) (.string x) false).run Tryz.prog w = .ok (.bool (decide (x ∈ l))) w := by
  have := KMap.lookup h (strKey hk) hT (zeroBool w) x false
  rw [this]
  simp only [Bool.false_eq_true, if_false, kget_set]

/-- The names that a namespace declares. -/
structure Names where
  e : List Str
  n : List Str
  a : List Str
  c : List Str
/-- A namespace's value: four maps with these names. -/
def SpaceV (w : World) (M : Nat → Prop) (v : Value) (N : Names) : Prop :=
  ∃ an me mn ma mc le ln la lc, v = .agg #[.map an, .map me, .map mn, .map ma, .map mc] ∧
    KMapO Value.string w me le ∧ KMapO Value.string w mn ln ∧ KMapO Value.string w ma la ∧ KMapO Value.string w mc lc ∧
    (∀ i, me = some i → ¬ M i) ∧ (∀ i, mn = some i → ¬ M i) ∧ (∀ i, ma = some i → ¬ M i) ∧ (∀ i, mc = some i → ¬ M i) ∧
    le.map (·.1) = N.e ∧ ln.map (·.1) = N.n ∧ la.map (·.1) = N.a ∧ lc.map (·.1) = N.c

/-- The syntax tree of a schema behind a pointer, as far as names go. -/
structure SchemaV (w : World) (M : Nat → Prop) (b : Nat) (me mn ma mc ms : Option Nat) (le ln la lc ls : List (Str × Value)) (NS : Str → Names) : Prop where
  c0 : w.cell? ⟨b, 0, none⟩ = some (.map me)
  c1 : w.cell? ⟨b, 1, none⟩ = some (.map mn)
  c2 : w.cell? ⟨b, 2, none⟩ = some (.map ma)
  c3 : w.cell? ⟨b, 3, none⟩ = some (.map mc)
  c4 : w.cell? ⟨b, 4, none⟩ = some (.map ms)
  m0 : KMapO Value.string w me le
  m1 : KMapO Value.string w mn ln
  m2 : KMapO Value.string w ma la
  m3 : KMapO Value.string w mc lc
  m4 : KMapO Value.string w ms ls
  spaces : ∀ p ∈ ls, SpaceV w M p.2 (NS p.1)

/-- A namespace hides something that is declared outside of namespaces. -/
def Hides (B A : List Str) (N : Names) : Prop := (∃ x, (x ∈ N.e ∨ x ∈ N.n ∨ x ∈ N.c) ∧ x ∈ B) ∨ ∃ x ∈ N.a, x ∈ A
def ShadowOut (le ln la lc ls : List (Str × Value)) (NS : Str → Names) (e : Ending) : Prop :=
  ((∃ a, e = .returned (.iface 296 (.pointer (some a)))) ∧ ∃ p ∈ ls, Hides (le.map (·.1) ++ ln.map (·.1) ++ lc.map (·.1)) (la.map (·.1)) (NS p.1)) ∨
  (e = .returned .nilIface ∧ ∀ p ∈ ls, ¬ Hides (le.map (·.1) ++ ln.map (·.1) ++ lc.map (·.1)) (la.map (·.1)) (NS p.1))
end Go.Proofs.YtedgonoeeeiilaaGreatDoor
