/- Loops over a map that put what each entry stands for into another map: what holds at each round; how resolved declarations lie in memory. -/
import Derived.Test.YtedgonoeeeiilaaGreatDoorWf
import Derived.Test.YtedgonoeeeiilaaGreatDoorWg
namespace Go.Proofs.YtedgonoeeeiilaaGreatDoor
open Go.RowKit

/-- A relation between data and values that is kept while other blocks turn. -/
structure Keeps {β : Type} (Rel : World → (Nat → Prop) → β → Value → Prop) : Prop where
  k : ∀ {w w' : World} {M M' M2 : Nat → Prop} {b : β} {v : Value}, Keep M2 w w' → (∀ i, i < w.heap.size → M2 i → M i) → (∀ i, i < w.heap.size → M' i → M i) → Rel w M b v → Rel w' M' b v

structure Out {κ β : Type} [DecidableEq κ] (enc : κ → Value) (Rel : World → (Nat → Prop) → β → Value → Prop) (MR : Nat → Prop) (wb wr : World) (m : Option Nat) (r o : Nat) (l : List (Str × Value)) (kf : Str → κ) (F : Str → β) (R0 : List (κ × β)) (left : List (Str × Value)) (R' : List (κ × β)) : Prop where
  it : KIter Value.string wr m r l left
  keep : Keep (· = o) wb wr
  le : wb.heap.size ≤ r
  old : o < wb.heap.size
  apart : ∀ i, m = some i → i ≠ o
  map : ∃ lv, KMap enc wr o lv ∧ MapRel (Rel wr (fun i => MR i ∨ i = r)) R' lv
  done : ∀ p ∈ l, p.1 ∉ left.map (·.1) → kget R' (kf p.1) = some (F p.1)
  rest : ∀ x, (∀ p ∈ l, p.1 ∉ left.map (·.1) → x ≠ kf p.1) → kget R' x = kget R0 x

section
variable {κ β : Type} [DecidableEq κ] {enc : κ → Value} {Rel : World → (Nat → Prop) → β → Value → Prop} {MR : Nat → Prop} {wb wr : World} {m : Option Nat} {r o : Nat} {l left : List (Str × Value)} {kf : Str → κ} {F : Str → β} {R0 R' : List (κ × β)}
theorem Out.start (hR : Keeps Rel) {ob : Obj} (it : KIter Value.string (wb.alloc ob) m wb.heap.size l l) (apart : ∀ i, m = some i → i ≠ o) (map : ∃ lv, KMap enc wb o lv ∧ MapRel (Rel wb MR) R0 lv) :
    Out enc Rel MR wb (wb.alloc ob) m wb.heap.size o l kf F R0 l R0 := by
  obtain ⟨lv, hm, hr⟩ := map
  exact ⟨it, Keep.alloc _ _ _, Nat.le_refl _, hm.lt, apart, ⟨lv, hm.keep (Keep.alloc _ _ NoB) (NoB.not _), hr.mono fun _ _ _ _ q => hR.k (Keep.alloc _ _ NoB) (fun _ _ h => h.elim) (fun i hi h => h.elim id fun e => by omega) q⟩,
    fun p hp h => (h (List.mem_map.2 ⟨p, hp, rfl⟩)).elim, fun _ _ => rfl⟩
theorem Out.mem (h : Out enc Rel MR wb wr m r o l kf F R0 left R') {p : Str × Value} {left' : List (Str × Value)} (hp : left.Perm (p :: left')) : p ∈ l := h.it.sub.subset (hp.mem_iff.2 (.head _))
/-- the map, behind the step of the iterator -/
theorem Out.map' (hR : Keeps Rel) (h : Out enc Rel MR wb wr m r o l kf F R0 left R') {w' w2 : World} (hk' : Keep (· = r) wr w') (hk2 : Keep NoB w' w2) : ∃ lv, KMap enc w2 o lv ∧ MapRel (Rel w2 (fun i => MR i ∨ i = r)) R' lv := by
  obtain ⟨lv, hm, hr⟩ := h.map
  refine ⟨lv, (hm.keep hk' (fun e => by have := h.le; have := h.old; omega)).keep hk2 (NoB.not _), hr.mono fun _ _ _ _ q => hR.k hk2 (fun _ _ h => h.elim) (fun _ _ h => h) (hR.k hk' (fun i _ e => .inr e) (fun _ _ h => h) q)⟩
theorem Out.keep2 (h : Out enc Rel MR wb wr m r o l kf F R0 left R') {w' w2 : World} (hk' : Keep (· = r) wr w') (hk2 : Keep NoB w' w2) : Keep (· = o) wb w2 :=
  (h.keep.trans hk' (M'' := (· = o)) (fun _ _ h => h) (fun i hi e => by have := h.le; subst e; omega)).then hk2
theorem Out.step (hR : Keeps Rel) (hkf : ∀ {a b}, kf a = kf b → a = b) (h : Out enc Rel MR wb wr m r o l kf F R0 left R') {left' : List (Str × Value)} {p : Str × Value} (hp : left.Perm (p :: left')) {w' w2 : World} (hit' : KIter Value.string w' m r l left') (hk' : Keep (· = r) wr w') (hk2 : Keep NoB w' w2)
    {lv : List (κ × Value)} (hm : KMap enc w2 o lv) (hr : MapRel (Rel w2 (fun i => MR i ∨ i = r)) R' lv) {v : Value} (hv : Rel w2 (fun i => MR i ∨ i = r) (F p.1) v) (hMo : MR o) {ob : Obj} (hm3 : KMap enc (ChangeMaps.setBlock w2 o ob) o (kput lv (kf p.1) v)) :
    Out enc Rel MR wb (ChangeMaps.setBlock w2 o ob) m r o l kf F R0 left' (kput R' (kf p.1) (F p.1)) := by
  have k3 : Keep (· = o) w2 (ChangeMaps.setBlock w2 o ob) := Keep.setBlock _ _ _ (fun _ => rfl)
  obtain ⟨hkeys, hnew, _⟩ := perm_keys hp ((h.it.sub.map _).nodup h.it.map.nodup)
  have hle := h.le
  have hold := h.old
  refine ⟨(hit'.keep hk2 (fun _ _ h => h) (fun h => h)).keep k3 h.apart (fun e => by omega), (h.keep2 hk' hk2).trans k3 (fun _ _ h => h) (fun _ _ h => h), h.le, h.old, h.apart,
    ⟨_, hm3, (hr.kput hm.nodup (kf p.1) hv).mono fun _ _ _ _ q => hR.k k3 (fun i _ e => .inl (e ▸ hMo)) (fun _ _ h => h) q⟩, fun q hq hq2 => ?_, fun x hx => ?_⟩
  · rw [kget_kput]
    split
    · rename_i e
      rw [hkf e]
    · rename_i e
      exact h.done q hq (fun h3 => ((hkeys _).1 h3).elim (fun h4 => e (by rw [h4])) hq2)
  · rw [kget_kput, if_neg (fun e => hx p (h.mem hp) hnew e.symm)]
    exact h.rest x fun q hq hq2 => hx q hq fun h3 => hq2 ((hkeys _).2 (.inr h3))
/-- What the loop has added. -/
structure Added (kf : Str → κ) (F : Str → β) (names : List Str) (R0 R' : List (κ × β)) : Prop where
  done : ∀ n ∈ names, kget R' (kf n) = some (F n)
  rest : ∀ x, (∀ n ∈ names, x ≠ kf n) → kget R' x = kget R0 x
theorem Out.over (hR : Keeps Rel) (h : Out enc Rel MR wb wr m r o l kf F R0 [] R') : Added kf F (l.map (·.1)) R0 R' ∧ ∃ lv, KMap enc wr o lv ∧ MapRel (Rel wr MR) R' lv := by
  obtain ⟨lv, hm, hr⟩ := h.map
  refine ⟨⟨fun n hn => ?_, fun x hx => h.rest x fun p hp _ => hx _ (List.mem_map.2 ⟨p, hp, rfl⟩)⟩, lv, hm, hr.mono fun _ _ _ _ q => hR.k (Keep.refl NoB wr) (fun _ _ h => h.elim) (fun _ _ h => .inl h) q⟩
  obtain ⟨p, hp, rfl⟩ := List.mem_map.1 hn
  exact h.done p hp (by simp)
end

theorem setCell_cells {w : World} {b : Nat} {cs : Array Value} {e : TypeId} {fz : Nat × Nat} (h : w.heap[b]? = some (.cells cs e fz)) (i : Nat) (v : Value) : (w.setCell ⟨b, i, none⟩ v).heap[b]? = some (.cells (cs.setIfInBounds i v) e fz) := by
  have hlt : b < w.heap.size := (Array.getElem?_eq_some_iff.1 h).1
  simp [World.setCell, Array.getElem?_modify, h]
theorem cell_cells {w : World} {b : Nat} {cs : Array Value} {e : TypeId} {fz : Nat × Nat} (h : w.heap[b]? = some (.cells cs e fz)) (i : Nat) : w.cell? ⟨b, i, none⟩ = cs[i]? := by
  simp [World.cell?, h]
theorem frozen_cells {w : World} {b : Nat} {cs : Array Value} {e : TypeId} (h : w.heap[b]? = some (.cells cs e (0, 0))) (i : Nat) : w.frozen? ⟨b, i, none⟩ = false := by
  simp [World.frozen?, h]

theorem _root_.Go.World.ownsRow.keep {w w' : World} {M : Nat → Prop} {base : Nat} {e : TypeId} {size : Nat} {v : Value} {n : Nat} {xs : List Value} (h : w.ownsRow base e size v n xs) (k : Keep M w w') (hM : ∀ i, base ≤ i → ¬ M i) : w'.ownsRow base e size v n xs := by
  obtain ⟨h1, h2⟩ := h
  refine ⟨h1, ?_⟩
  rcases h2 with h2 | ⟨g, cap, cur, hv, hg, hh, r⟩
  · exact .inl h2
  · exact .inr ⟨g, cap, cur, hv, hg, k.heap hh (hM g hg), r⟩

theorem grown_keep {w w0 w4 : World} {base : Nat} {e : TypeId} {size : Nat} {v : Value} {n : Nat} {xs : List Value} (h : w0.ownsRow base e size v n xs) (hg : w.grownBy w4 v.ownBlock) : Keep (fun k => base ≤ k) w w4 :=
  Keep.grown hg fun i hi _ => by
    rcases h.2 with ⟨rfl, _⟩ | ⟨g, cap, cur, rfl, hb, _⟩
    · cases hi
    · cases hi; exact hb
theorem owns_some {w : World} {base : Nat} {e : TypeId} {size : Nat} {v : Value} {n : Nat} {xs : List Value} (h : w.ownsRow base e size v (n + 1) xs) : ∃ g cap, v = .slice (some ⟨g, 0, none⟩) (n + 1) cap := by
  rcases h.2 with ⟨_, h⟩ | ⟨g, cap, cur, rfl, _⟩
  · cases h
  · exact ⟨g, cap, rfl⟩

/-! ### declarations -/
/-- a slice of strings -/
def StrsAt (w : World) (M : Nat → Prop) (l : List Str) (v : Value) : Prop := SliceAt w M 1 l.length v (fun i => [.string (l.getD i ⟨#[]⟩)])
theorem StrsAt.keep : Keeps StrsAt := ⟨fun hk h2 h3 h => SliceAt.keep h hk h2 h3 (.inr (by omega))⟩

/-- An enumeration of the syntax tree. -/
def AEnumIs (w : World) (M : Nat → Prop) (vals : List Str) (v : Value) : Prop := ∃ an sv, v = .agg #[.map an, sv] ∧ StrsAt w M vals sv
/-- A resolved enumeration: its whole name and its values. -/
def REnumIs (w : World) (M : Nat → Prop) (e : Str × List Str) (v : Value) : Prop := ∃ an sv, v = .agg #[.string e.1, .map an, sv] ∧ SliceAt w M 2 e.2.length sv (fun i => [.string e.1, .string (e.2.getD i ⟨#[]⟩)])
theorem AEnumIs.keep : Keeps AEnumIs := ⟨fun hk h2 h3 ⟨an, sv, e, h⟩ => ⟨an, sv, e, StrsAt.keep.k hk h2 h3 h⟩⟩
theorem REnumIs.keep : Keeps REnumIs := ⟨fun hk h2 h3 ⟨an, sv, e, h⟩ => ⟨an, sv, e, SliceAt.keep h hk h2 h3 (.inr (by omega))⟩⟩

/-- An entity type of the syntax tree. -/
structure AEnt where
  parents : List Str
  shape : Option (List (Str × ATy × Bool))
  tags : Option ATy
/-- A resolved one. -/
structure REnt where
  name : Str
  parents : List Str
  shape : Option RTy
  tags : Option RTy
  deriving Inhabited
def AShape (w : World) (M : Nat → Prop) : Option (List (Str × ATy × Bool)) → Value → Prop
  | none, v => v = .map none
  | some l, v => ∃ b, v = .map (some b) ∧ ATyIs w M (.record l) (.iface 181 v)
def ATags (w : World) (M : Nat → Prop) : Option ATy → Value → Prop
  | none, v => v = .nilIface
  | some t, v => ATyIs w M t v
def RShape (w : World) (M : Nat → Prop) : Option RTy → Value → Prop
  | none, v => v = .map none
  | some t, v => ∃ b, v = .map (some b) ∧ RTyIs w M t (.iface 75 v)
def RTags (w : World) (M : Nat → Prop) : Option RTy → Value → Prop
  | none, v => v = .nilIface
  | some t, v => RTyIs w M t v
def AEntIs (w : World) (M : Nat → Prop) (e : AEnt) (v : Value) : Prop :=
  ∃ an pv sv tv, v = .agg #[.map an, pv, sv, tv] ∧ StrsAt w M e.parents pv ∧ (∀ p ∈ e.parents, p.size ≤ 1000000) ∧ AShape w M e.shape sv ∧ ATags w M e.tags tv
def REntIs (w : World) (M : Nat → Prop) (e : REnt) (v : Value) : Prop :=
  ∃ an pv sv tv, v = .agg #[.string e.name, .map an, pv, sv, tv] ∧ StrsAt w M e.parents pv ∧ RShape w M e.shape sv ∧ RTags w M e.tags tv
theorem AEntIs.keep : Keeps AEntIs := by
  refine ⟨fun {w w' M M' M2 e v} hk h2 h3 ⟨an, pv, sv, tv, e1, hp, hz, hs, ht⟩ => ?_⟩
  refine ⟨an, pv, sv, tv, e1, StrsAt.keep.k hk h2 h3 hp, hz, ?_, ?_⟩
  · cases hsh : e.shape with
    | none => rw [hsh] at hs; exact hs
    | some l => rw [hsh] at hs; obtain ⟨b, e2, h⟩ := hs; exact ⟨b, e2, h.keep hk h2 h3⟩
  · cases htg : e.tags with
    | none => rw [htg] at ht; exact ht
    | some t => rw [htg] at ht; exact ATyIs.keep hk h2 h3 ht
theorem RShape.keep : Keeps RShape := by
  refine ⟨fun {w w' M M' M2 e v} hk h2 h3 hs => ?_⟩
  cases e with
  | none => exact hs
  | some l => obtain ⟨b, e2, h⟩ := hs; exact ⟨b, e2, h.keep hk h2 h3⟩
theorem RTags.keep : Keeps RTags := by
  refine ⟨fun {w w' M M' M2 e v} hk h2 h3 ht => ?_⟩
  cases e with
  | none => exact ht
  | some t => exact RTyIs.keep hk h2 h3 ht
theorem REntIs.keep : Keeps REntIs := ⟨fun hk h2 h3 ⟨an, pv, sv, tv, e1, hp, hs, ht⟩ => ⟨an, pv, sv, tv, e1, StrsAt.keep.k hk h2 h3 hp, RShape.keep.k hk h2 h3 hs, RTags.keep.k hk h2 h3 ht⟩⟩
end Go.Proofs.YtedgonoeeeiilaaGreatDoor
