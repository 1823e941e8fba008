/- Map, Spec, Rep: joined. -/
import Derived.Maps.Keyed
import Derived.Laws.IdiomRangeMap
import Derived.Maps.RangeRun
import Derived.Below
import Derived.MapKept
import Derived.Laws.Strings
import Derived.Lib.LastIndexLaws
import Derived.Lib.Strings
import Derived.Test.YtedgonoeeeiilaaGreatDoorRows
import Derived.WalkKit
/- Plain laws on maps in memory, keys of any kind that the model can look up; no program in sight. -/
namespace Go.Proofs.YtedgonoeeeiilaaGreatDoor
open Go.MapKept Go.RowKit
open Go.ChangeMaps (setBlock)

/-- A change of the world that leaves every old block but those of M as it was. -/
structure Keep (M : Nat → Prop) (w w' : World) : Prop where
  os : w'.os = w.os
  tape : w'.tape = w.tape
  output : w'.output = w.output
  size : w.heap.size ≤ w'.heap.size
  block : ∀ k, k < w.heap.size → ¬ M k → w'.heap[k]? = w.heap[k]?

theorem Keep.refl (M : Nat → Prop) (w : World) : Keep M w w := ⟨rfl, rfl, rfl, Nat.le_refl _, fun _ _ _ => rfl⟩
theorem Keep.trans {M M' M'' : Nat → Prop} {a b c : World} (h : Keep M a b) (k : Keep M' b c) (h1 : ∀ i, i < a.heap.size → M i → M'' i) (h2 : ∀ i, i < a.heap.size → M' i → M'' i) : Keep M'' a c :=
  ⟨k.os.trans h.os, k.tape.trans h.tape, k.output.trans h.output, Nat.le_trans h.size k.size, fun i hi hn =>
    (k.block i (Nat.lt_of_lt_of_le hi h.size) (fun e => hn (h2 i hi e))).trans (h.block i hi (fun e => hn (h1 i hi e)))⟩
theorem Keep.mono {M M' : Nat → Prop} {a b : World} (h : Keep M a b) (h1 : ∀ i, i < a.heap.size → M i → M' i) : Keep M' a b :=
  ⟨h.os, h.tape, h.output, h.size, fun i hi hn => h.block i hi (fun e => hn (h1 i hi e))⟩
/-- nothing old has turned -/
def NoB : Nat → Prop := fun _ => False
theorem Keep.then {a b c : World} {M : Nat → Prop} (h : Keep M a b) (k : Keep NoB b c) : Keep M a c := h.trans k (fun _ _ h => h) (fun _ _ h => h.elim)
theorem Keep.first {a b c : World} {M : Nat → Prop} (h : Keep NoB a b) (k : Keep M b c) : Keep M a c := h.trans k (fun _ _ h => h.elim) (fun _ _ h => h)
theorem Keep.alloc (w : World) (o : Obj) (M : Nat → Prop) : Keep M w (w.alloc o) :=
  ⟨rfl, rfl, rfl, by simp, fun k hk _ => Below.heap_alloc _ _ _ hk⟩
theorem Keep.drew (w : World) (M : Nat → Prop) : Keep M w w.drew := ⟨rfl, rfl, rfl, Nat.le_refl _, fun _ _ _ => rfl⟩
theorem Keep.setCell {M : Nat → Prop} (w : World) (p : Addr) (u : Value) (h : p.block < w.heap.size → M p.block) : Keep M w (w.setCell p u) :=
  ⟨rfl, rfl, rfl, by simp [World.setCell], fun k hk hn => Below.heap_setCell _ _ _ _ (fun e => hn (e ▸ h (e ▸ hk)))⟩
theorem Keep.setBlock {M : Nat → Prop} (w : World) (b : Nat) (o : Obj) (h : b < w.heap.size → M b) : Keep M w (setBlock w b o) :=
  ⟨rfl, rfl, rfl, by simp [Go.ChangeMaps.setBlock], fun k hk hn => by
    have hne : b ≠ k := fun e => hn (e ▸ h (e ▸ hk))
    simp [Go.ChangeMaps.setBlock, hne]⟩
theorem Keep.below {w w' : World} {B : Nat} {M : Nat → Prop} (h : Below B w w') (hM : ∀ i, i < w.heap.size → B ≤ i → M i) : Keep M w w' :=
  ⟨h.os, h.tape, h.output, h.size, fun k hk hn => h.block k (by
    rcases Nat.lt_or_ge k B with h' | h'
    · exact h'
    · exact (hn (hM k hk h')).elim)⟩
theorem Keep.toBelow {w w' : World} {M : Nat → Prop} {B : Nat} (h : Keep M w w') (hB : B ≤ w.heap.size) (hM : ∀ i, i < B → ¬ M i) : Below B w w' :=
  ⟨h.os, h.tape, h.output, h.size, fun k hk => h.block k (by omega) (hM k hk)⟩
theorem Keep.grown {w w' : World} {row : Option Nat} {M : Nat → Prop} (h : w.grownBy w' row) (hM : ∀ i, row = some i → i < w.heap.size → M i) : Keep M w w' :=
  ⟨h.os, h.tape, h.output, h.size, fun k hk hn => h.block k hk (fun e => hn (hM k e.symm hk))⟩
theorem Keep.cell {M : Nat → Prop} {w w' : World} (h : Keep M w w') {p : Addr} {v : Value} (hp : w.cell? p = some v) (hM : ¬ M p.block) : w'.cell? p = some v := by
  have hb : p.block < w.heap.size := block_lt_of_cell hp
  rw [World.cell?_of_block (w := w) (h.block p.block hb hM)]; exact hp
theorem Keep.heap {M : Nat → Prop} {w w' : World} (h : Keep M w w') {b : Nat} {o : Obj} (hp : w.heap[b]? = some o) (hM : ¬ M b) : w'.heap[b]? = some o := by
  have hb : b < w.heap.size := (Array.getElem?_eq_some_iff.1 hp).1
  rw [h.block b hb hM]; exact hp

/-! ### lists by key -/
section
variable {κ α : Type} [DecidableEq κ]
def kget (l : List (κ × α)) (k : κ) : Option α := (l.find? (fun p => decide (p.1 = k))).map (·.2)
def kput (l : List (κ × α)) (k : κ) (v : α) : List (κ × α) :=
  if l.any (fun p => decide (p.1 = k)) then l.map (fun p => if p.1 = k then (k, v) else p) else l ++ [(k, v)]
theorem kget_none {l : List (κ × α)} {k : κ} (h : ∀ p ∈ l, p.1 ≠ k) : kget l k = none := by
  unfold kget
  rw [List.find?_eq_none.2 (fun p hp => by simpa using h p hp)]; rfl
theorem kget_mem {l : List (κ × α)} (hn : (l.map (·.1)).Nodup) {k : κ} {v : α} (h : (k, v) ∈ l) : kget l k = some v := by
  induction l with
  | nil => cases h
  | cons p l ih =>
    simp only [List.map_cons, List.nodup_cons] at hn
    unfold kget
    by_cases e : p.1 = k
    · simp only [List.find?_cons, e, decide_true]
      rcases List.mem_cons.1 h with h1 | h1
      · rw [← h1]; rfl
      · exact (hn.1 (e ▸ List.mem_map.2 ⟨_, h1, rfl⟩)).elim
    · simp only [List.find?_cons, e, decide_false]
      rcases List.mem_cons.1 h with h1 | h1
      · rw [← h1] at e; exact (e rfl).elim
      · exact ih hn.2 h1
theorem kget_some {l : List (κ × α)} {k : κ} {v : α} (h : kget l k = some v) : (k, v) ∈ l := by
  unfold kget at h
  cases hf : l.find? (fun p => decide (p.1 = k)) with
  | none => rw [hf] at h; cases h
  | some p =>
    rw [hf] at h
    have h1 := List.find?_some hf
    have h2 := List.mem_of_find?_eq_some hf
    simp only [decide_eq_true_eq] at h1
    simp only [Option.map_some, Option.some.injEq] at h
    obtain ⟨a, b⟩ := p
    cases h1; cases h; exact h2
theorem kput_fresh {l : List (κ × α)} {k : κ} (v : α) (h : ∀ p ∈ l, p.1 ≠ k) : kput l k v = l ++ [(k, v)] := by
  unfold kput
  rw [if_neg]
  simp only [List.any_eq_true, decide_eq_true_eq, not_exists, not_and]
  exact h
theorem kput_keys {l : List (κ × α)} {k : κ} (v : α) : (kput l k v).map (·.1) = if l.any (fun p => decide (p.1 = k)) then l.map (·.1) else l.map (·.1) ++ [k] := by
  unfold kput
  split
  · rw [List.map_map]
    apply List.map_congr_left
    intro p _
    simp only [Function.comp]
    split
    · rename_i e; exact e.symm
    · rfl
  · simp
theorem kput_nodup {l : List (κ × α)} (hn : (l.map (·.1)).Nodup) (k : κ) (v : α) : ((kput l k v).map (·.1)).Nodup := by
  rw [kput_keys]
  split
  · exact hn
  · rename_i h
    refine List.nodup_append.2 ⟨hn, by simp, ?_⟩
    intro a ha b hb e
    simp only [List.mem_singleton] at hb
    subst hb; subst e
    obtain ⟨p, hp, e⟩ := List.mem_map.1 ha
    exact h (List.any_eq_true.2 ⟨p, hp, by simpa using e⟩)
theorem kget_kput {l : List (κ × α)} {k k' : κ} (v : α) : kget (kput l k v) k' = if k = k' then some v else kget l k' := by
  unfold kput
  split
  · rename_i h
    induction l with
    | nil => simp at h
    | cons p l ih =>
      unfold kget
      by_cases e : p.1 = k
      · by_cases e' : k = k'
        · simp [e, e']
        · simp only [List.map_cons, e, if_true, List.find?_cons, e', decide_false, if_false]
          by_cases h2 : (l.any fun p => decide (p.1 = k)) = true
          · have := ih h2; unfold kget at this; rw [if_neg e'] at this; exact this
          · have hid : l.map (fun p => if p.1 = k then (k, v) else p) = l := by
              conv => rhs; rw [← List.map_id l]
              apply List.map_congr_left
              intro q hq
              rw [if_neg]; rfl
              intro e2
              exact h2 (List.any_eq_true.2 ⟨q, hq, by simpa using e2⟩)
            rw [hid]
      · have h2 : (l.any fun p => decide (p.1 = k)) = true := by simpa [e] using h
        have := ih h2; unfold kget at this
        simp only [List.map_cons, e, if_false, List.find?_cons]
        by_cases e3 : p.1 = k'
        · have : ¬ k = k' := fun e4 => e (e3.trans e4.symm)
          simp [e3, this]
        · simp only [e3, decide_false]; exact this
  · rename_i h
    have hk : ∀ p ∈ l, p.1 ≠ k := fun p hp e => h (List.any_eq_true.2 ⟨p, hp, by simpa using e⟩)
    unfold kget
    rw [List.find?_append]
    by_cases e : k = k'
    · subst e
      rw [List.find?_eq_none.2 (fun p hp => by simpa using hk p hp)]
      simp
    · rw [if_neg e]
      simp [e]
end

theorem length_le_of_subset {κ : Type} [DecidableEq κ] : ∀ {a b : List κ}, a.Nodup → (∀ x ∈ a, x ∈ b) → a.length ≤ b.length
  | [], _, _, _ => Nat.zero_le _
  | x :: a, b, hn, hs => by
    have hx : x ∈ b := hs x (.head _)
    have h1 := length_le_of_subset (a := a) (b := b.erase x) (List.nodup_cons.1 hn).2 (fun y hy => by
      have hne : y ≠ x := fun e => (List.nodup_cons.1 hn).1 (e ▸ hy)
      exact (List.mem_erase_of_ne hne).2 (hs y (.tail _ hy)))
    rw [List.length_erase_of_mem hx] at h1
    have : 0 < b.length := List.length_pos_of_mem hx
    simp only [List.length_cons]
    omega
theorem subset_back {κ : Type} [DecidableEq κ] {a b : List κ} (hn : a.Nodup) (hs : ∀ x ∈ a, x ∈ b) (hl : b.length ≤ a.length) : ∀ x ∈ b, x ∈ a := by
  intro x hx
  by_cases h : x ∈ a
  · exact h
  · have h1 := length_le_of_subset (a := x :: a) (b := b) (List.nodup_cons.2 ⟨h, hn⟩) (fun y hy => by
      rcases List.mem_cons.1 hy with rfl | hy
      · exact hx
      · exact hs y hy)
    simp only [List.length_cons] at h1
    omega
theorem key_unique {κ α : Type} {l : List (κ × α)} (hn : (l.map (·.1)).Nodup) {k : κ} {a b : α} (ha : (k, a) ∈ l) (hb : (k, b) ∈ l) : a = b := by
  induction l with
  | nil => cases ha
  | cons p l ih =>
    simp only [List.map_cons, List.nodup_cons] at hn
    rcases List.mem_cons.1 ha with h1 | h1
    · rcases List.mem_cons.1 hb with h2 | h2
      · exact congrArg Prod.snd (h1.trans h2.symm)
      · exact (hn.1 (List.mem_map.2 ⟨_, h2, by rw [← h1]⟩)).elim
    · rcases List.mem_cons.1 hb with h2 | h2
      · exact (hn.1 (List.mem_map.2 ⟨_, h1, by rw [← h2]⟩)).elim
      · exact ih hn.2 h1 h2
/-- Two lists by key, of one length, the first one's keys among the second one's: each of the second one's is one of the first one's. -/
theorem entry_back {κ α β : Type} [DecidableEq κ] {l : List (κ × α)} {lv : List (κ × β)} (hn : (l.map (·.1)).Nodup) (hv : (lv.map (·.1)).Nodup) (hl : lv.length = l.length) (g : κ → α → β) (h : ∀ k x, (k, x) ∈ l → (k, g k x) ∈ lv) :
    ∀ k v, (k, v) ∈ lv → ∃ x, (k, x) ∈ l ∧ v = g k x := by
  intro k v hm
  have h1 := subset_back hn (b := lv.map (·.1)) (fun x hx => by
    obtain ⟨p, hp, rfl⟩ := List.mem_map.1 hx
    exact List.mem_map.2 ⟨_, h p.1 p.2 hp, rfl⟩) (by simp [hl]) k (List.mem_map.2 ⟨_, hm, rfl⟩)
  obtain ⟨⟨k', x⟩, hx, rfl⟩ := List.mem_map.1 h1
  exact ⟨x, hx, key_unique hv hm (h _ x hx)⟩

/-! ### a kind of keys -/
/-- What the model's looking up asks of keys of type 'kt' that are the values 'enc x'. -/
structure KeyRun (P : Program) (kt : TypeId) {κ : Type} (enc : κ → Value) : Prop where
  inj : ∀ {a b : κ}, enc a = enc b → a = b
  check : ∀ (w : World) (em : Bool) (x : κ), (Instr.checkKey em 10000 kt (enc x)).run P w = .ok () w
  find : ∀ (w : World) (x : κ) (es : List MapEntry), (∀ e ∈ es, ∃ y, e.key = enc y) →
    ((Instr.findKey kt (enc x) es).run P w = .ok none w ∧ ∀ e ∈ es, e.key ≠ enc x) ∨ ∃ j e, (Instr.findKey kt (enc x) es).run P w = .ok (some (j, e.val)) w ∧ es[j]? = some e ∧ e.key = enc x
  stays : ∀ (w : World) (x : κ), (Instr.keyThatStays (enc x) (enc x)).run P w = .ok (enc x) w

theorem strKey {P : Program} {kt : TypeId} (h : P.underlying kt = some .string) : KeyRun P kt Value.string where
  inj := fun h => by cases h; rfl
  check := fun w em x => run_checkKey h (by trivial) em 9999
  find := fun w x es hes => by
    have hk : ∀ e ∈ es, IsKey .string e.key := fun e he => by obtain ⟨y, hy⟩ := hes e he; rw [hy]; trivial
    rcases findNow_spec (d := .string) (k := .string x) trivial es 0 hk with ⟨h1, h2⟩ | ⟨j, e, h1, h2, h3⟩
    · exact .inl ⟨run_findKey h h1, h2⟩
    · exact .inr ⟨j, e, by rw [run_findKey h h1, Nat.zero_add], h2, h3⟩
  stays := fun w x => run_keyThatStays (d := .string) trivial

section
variable {κ : Type} {P : Program} {kt : TypeId} {enc : κ → Value}

/-- Block b of w is a map that holds just l, in the order of their making. -/
def KMap (enc : κ → Value) (w : World) (b : Nat) (l : List (κ × Value)) : Prop :=
  ∃ es clock, w.heap[b]? = some (.map es clock) ∧ Stamped es clock ∧ es.toList.map (fun e => (e.key, e.val)) = l.map (fun p => (enc p.1, p.2)) ∧ (l.map (·.1)).Nodup

theorem KMap.lt {w : World} {b : Nat} {l : List (κ × Value)} (h : KMap enc w b l) : b < w.heap.size := by
  obtain ⟨es, clock, hb, _⟩ := h
  exact (Array.getElem?_eq_some_iff.1 hb).1
theorem KMap.of_block {w w' : World} {b : Nat} {l : List (κ × Value)} (h : KMap enc w b l) (e : w'.heap[b]? = w.heap[b]?) : KMap enc w' b l := by
  obtain ⟨es, clock, hb, r⟩ := h
  exact ⟨es, clock, e.trans hb, r⟩
theorem KMap.keep {w w' : World} {b : Nat} {l : List (κ × Value)} {M : Nat → Prop} (h : KMap enc w b l) (k : Keep M w w') (hM : ¬ M b) : KMap enc w' b l :=
  h.of_block (k.block b h.lt hM)
theorem KMap.made (w : World) : KMap enc (w.alloc (.map #[] 0)) w.heap.size [] :=
  ⟨#[], 0, (MapKept.heap_alloc w _).1, stamped_empty 0, rfl, by simp⟩
theorem KMap.nodup {w : World} {b : Nat} {l : List (κ × Value)} (h : KMap enc w b l) : (l.map (·.1)).Nodup := by
  obtain ⟨_, _, _, _, _, hn⟩ := h; exact hn

theorem entries_keyed {es : List MapEntry} {l : List (κ × Value)} (h : es.map (fun e => (e.key, e.val)) = l.map (fun p => (enc p.1, p.2))) : ∀ e ∈ es, ∃ p ∈ l, e.key = enc p.1 ∧ e.val = p.2 := by
  intro e he
  have : (e.key, e.val) ∈ es.map (fun e => (e.key, e.val)) := List.mem_map.2 ⟨e, he, rfl⟩
  rw [h] at this
  obtain ⟨p, hp, e1⟩ := List.mem_map.1 this
  simp only [Prod.mk.injEq] at e1
  exact ⟨p, hp, e1.1.symm, e1.2.symm⟩

variable [DecidableEq κ]
/-- 'm[k]' and 'v, ok := m[k]' -/
theorem KMap.lookup {w : World} {b : Nat} {l : List (κ × Value)} (h : KMap enc w b l) (K : KeyRun P kt enc) {t e : TypeId} (ht : P.underlying t = some (.map kt e)) {z : Value} (hz : (zeroValue e).run P w = .ok z w) (x : κ) (ok : Bool) :
    (Instr.lookup t (.map (some b)) (enc x) ok).run P w = .ok (if ok then .tuple #[(kget l x).getD z, .bool (kget l x).isSome] else (kget l x).getD z) w := by
  obtain ⟨es, clock, hb, hs, he, hn⟩ := h
  have hk := entries_keyed he
  unfold Instr.lookup
  simp only [Sem.run_bind, run_underlying ht, MapKept.run_getObj_map hb, Result.andThen, K.check, Sem.run_pure]
  rcases K.find w x es.toList (fun e he' => by obtain ⟨p, _, h1, _⟩ := hk e he'; exact ⟨p.1, h1⟩) with ⟨h1, h2⟩ | ⟨j, e0, h1, h2, h3⟩
  · have hg : kget l x = none := kget_none fun p hp e1 => by
      have : (enc p.1, p.2) ∈ l.map (fun p => (enc p.1, p.2)) := List.mem_map.2 ⟨p, hp, rfl⟩
      rw [← he] at this
      obtain ⟨q, hq, e2⟩ := List.mem_map.1 this
      simp only [Prod.mk.injEq] at e2
      exact h2 q hq (by rw [e2.1, e1])
    simp only [h1, Sem.run_bind, Sem.run_pure, Result.andThen, hz, hg, Option.getD_none, Option.isSome_none]
  · have hm : e0 ∈ es.toList := List.mem_of_getElem? h2
    obtain ⟨p, hp, e1, e2⟩ := hk e0 hm
    have e3 : p.1 = x := K.inj (e1.symm.trans h3)
    have hg : kget l x = some e0.val := kget_mem hn (by rw [e2, ← e3]; exact hp)
    simp only [h1, Sem.run_bind, Sem.run_pure, Result.andThen, hg, Option.getD_some, Option.isSome_some]

theorem map_modify_eq {es : List MapEntry} {l : List (κ × Value)} (K : KeyRun P kt enc) (hn : (l.map (·.1)).Nodup) (h : es.map (fun e => (e.key, e.val)) = l.map (fun p => (enc p.1, p.2))) {j : Nat} {e0 : MapEntry} (hj : es[j]? = some e0) {x : κ} (hx : e0.key = enc x) (v : Value) :
    (es.modify j fun e => { e with key := enc x, val := v }).map (fun e => (e.key, e.val)) = (kput l x v).map (fun p => (enc p.1, p.2)) := by
  have hlen : es.length = l.length := by simpa using congrArg List.length h
  have hjl : j < es.length := (List.getElem?_eq_some_iff.1 hj).1
  have hat : ∀ i : Nat, es[i]?.map (fun e => (e.key, e.val)) = l[i]?.map (fun p => (enc p.1, p.2)) := fun i => by
    have := congrArg (fun q : List (Value × Value) => q[i]?) h
    simpa using this
  have hpj := hat j
  rw [hj] at hpj
  cases hlj : l[j]? with
  | none => rw [hlj] at hpj; simp at hpj
  | some p =>
    rw [hlj] at hpj
    simp only [Option.map_some, Option.some.injEq, Prod.mk.injEq] at hpj
    have hpx : p.1 = x := K.inj (hpj.1.symm.trans hx)
    have hany : l.any (fun p => decide (p.1 = x)) = true := List.any_eq_true.2 ⟨p, List.mem_of_getElem? hlj, by simpa using hpx⟩
    unfold kput
    rw [if_pos hany]
    apply List.ext_getElem?
    intro i
    simp only [List.getElem?_map, List.getElem?_modify]
    by_cases hij : j = i
    · subst hij
      simp [hj, hlj, hpx]
    · have hi := hat i
      cases hei : es[i]? with
      | none => rw [hei] at hi; cases hli : l[i]? with
        | none => simp
        | some q => rw [hli] at hi; simp at hi
      | some e =>
        rw [hei] at hi
        cases hli : l[i]? with
        | none => rw [hli] at hi; simp at hi
        | some q =>
          rw [hli] at hi
          simp only [Option.map_some, Option.some.injEq, Prod.mk.injEq] at hi
          have hne : q.1 ≠ x := by
            intro e1
            have h1 : (l.map (·.1))[j]? = some x := by simp [hlj, hpx]
            have h2 : (l.map (·.1))[i]? = some x := by simp [hli, e1]
            have h3 := (List.getElem?_inj (i := j) (j := i) (by simpa [hlen] using hjl) hn).1 (by rw [h1, h2])
            exact hij h3
          simp [hij, hne, hi]

/-- 'm[k] = v' -/
theorem KMap.update {w : World} {b : Nat} {l : List (κ × Value)} (h : KMap enc w b l) (K : KeyRun P kt enc) {t e : TypeId} (ht : P.underlying t = some (.map kt e)) (x : κ) (v : Value) :
    ∃ o, (Instr.mapUpdate t (.map (some b)) (enc x) v).run P w = .ok () (setBlock w b o) ∧ KMap enc (setBlock w b o) b (kput l x v) := by
  obtain ⟨es, clock, hb, hs, he, hn⟩ := h
  have hk := entries_keyed he
  have hlt : b < w.heap.size := (Array.getElem?_eq_some_iff.1 hb).1
  unfold Instr.mapUpdate
  simp only [Sem.run_bind, run_underlying ht, MapKept.run_getObj_map hb, Result.andThen, K.check]
  rcases K.find w x es.toList (fun e he' => by obtain ⟨p, _, h1, _⟩ := hk e he'; exact ⟨p.1, h1⟩) with ⟨h1, h2⟩ | ⟨j, e0, h1, h2, h3⟩
  · simp only [h1, MapKept.run_setObj_map _ hb]
    refine ⟨.map (es.push { key := enc x, val := v, born := clock }) (clock + 1), rfl, ⟨es.push { key := enc x, val := v, born := clock }, clock + 1, by simp [setBlock, hlt], stamped_push hs h2, ?_, kput_nodup hn x v⟩⟩
    have hfresh : ∀ p ∈ l, p.1 ≠ x := fun p hp e1 => by
      have : (enc p.1, p.2) ∈ l.map (fun p => (enc p.1, p.2)) := List.mem_map.2 ⟨p, hp, rfl⟩
      rw [← he] at this
      obtain ⟨q, hq, e2⟩ := List.mem_map.1 this
      simp only [Prod.mk.injEq] at e2
      exact h2 q hq (by rw [e2.1, e1])
    rw [kput_fresh v hfresh]
    simp [he]
  · have hj : es[j]? = some e0 := by simpa using h2
    simp only [h1, hj, Option.map_some, Option.getD_some, h3, Sem.run_bind, Result.andThen, K.stays, MapKept.run_setObj_map _ hb]
    refine ⟨.map (es.modify j fun e => { e with key := enc x, val := v }) clock, rfl, ⟨es.modify j fun e => { e with key := enc x, val := v }, clock, by simp [setBlock, hlt], ?_, ?_, kput_nodup hn x v⟩⟩
    · exact stamped_modify hs _ _ (fun _ _ => rfl) (fun e' _ he' => by rw [hj] at he'; cases he'; exact h3.symm)
    · rw [Array.toList_modify]
      exact map_modify_eq K hn he h2 h3 v

omit [DecidableEq κ] in
theorem kmap_lookup_nil (K : KeyRun P kt enc) (w : World) {t e : TypeId} (ht : P.underlying t = some (.map kt e)) {z : Value} (hz : (zeroValue e).run P w = .ok z w) (x : κ) (ok : Bool) :
    (Instr.lookup t (.map none) (enc x) ok).run P w = .ok (if ok then .tuple #[z, .bool false] else z) w := by
  unfold Instr.lookup
  have h1 := K.find w x [] (by simp)
  rcases h1 with ⟨h1, _⟩ | ⟨j, e0, _, h2, _⟩
  · simp only [Sem.run_bind, run_underlying ht, Result.andThen, K.check, Sem.run_pure, h1, hz]
  · simp at h2

omit [DecidableEq κ] in
theorem run_len_kmap {w : World} {b : Nat} {l : List (κ × Value)} (h : KMap enc w b l) : ∃ es clock, w.heap[b]? = some (.map es clock) ∧ es.size = l.length := by
  obtain ⟨es, clock, hb, hs, he, hn⟩ := h
  exact ⟨es, clock, hb, by simpa using congrArg List.length he⟩
end

theorem cell_ne_map {κ : Type} {enc : κ → Value} {w : World} {b o m : Nat} {v : Value} {l : List (κ × Value)} (h : w.cell? ⟨b, o, none⟩ = some v) (hm : KMap enc w m l) : b ≠ m := by
  intro e
  subst e
  obtain ⟨es, clock, hb, _⟩ := hm
  simp [World.cell?, hb] at h
theorem perm_keys {κ α : Type} {left left' : List (κ × α)} {p : κ × α} (hp : left.Perm (p :: left')) (hn : (left.map (·.1)).Nodup) :
    (∀ y, y ∈ left.map (·.1) ↔ (y = p.1 ∨ y ∈ left'.map (·.1))) ∧ p.1 ∉ left'.map (·.1) ∧ left.length = left'.length + 1 := by
  refine ⟨fun y => ?_, ?_, by rw [hp.length_eq]; rfl⟩
  · rw [(hp.map (·.1)).mem_iff]; simp
  · exact (List.nodup_cons.1 ((hp.map (·.1)).nodup_iff.1 hn)).1
/-! ### ranging -/
section
variable {κ : Type} {P : Program} {kt : TypeId} {enc : κ → Value}
/-- A map that may be nil. -/
def KMapO (enc : κ → Value) (w : World) : Option Nat → List (κ × Value) → Prop
  | none, l => l = []
  | some b, l => KMap enc w b l
theorem KMapO.keep {w w' : World} {m : Option Nat} {l : List (κ × Value)} {M : Nat → Prop} (h : KMapO enc w m l) (k : Keep M w w') (hM : ∀ b, m = some b → ¬ M b) : KMapO enc w' m l := by
  cases m with
  | none => exact h
  | some b => exact KMap.keep (M := M) h k (hM b rfl)
theorem KMapO.nodup {w : World} {m : Option Nat} {l : List (κ × Value)} (h : KMapO enc w m l) : (l.map (·.1)).Nodup := by
  cases m with
  | none => subst h; simp
  | some b => exact KMap.nodup h
theorem KMapO.lookup [DecidableEq κ] {w : World} {m : Option Nat} {l : List (κ × Value)} (h : KMapO enc w m l) (K : KeyRun P kt enc) {t e : TypeId} (ht : P.underlying t = some (.map kt e)) {z : Value} (hz : (zeroValue e).run P w = .ok z w) (x : κ) (ok : Bool) :
    (Instr.lookup t (.map m) (enc x) ok).run P w = .ok (if ok then .tuple #[(kget l x).getD z, .bool (kget l x).isSome] else (kget l x).getD z) w := by
  cases m with
  | none => subst h; exact kmap_lookup_nil K w ht hz x ok
  | some b => exact KMap.lookup h K ht hz x ok

/-- The iterator r of a loop over the map m that holds l: left is what is still to come. -/
def KIter (enc : κ → Value) (w : World) (m : Option Nat) (r : Nat) (l left : List (κ × Value)) : Prop :=
  match m with
  | none => l = [] ∧ left = [] ∧ w.heap[r]? = some (.mapIter none 0 #[] 0)
  | some b => ∃ es clock since seen c0, w.heap[b]? = some (.map es clock) ∧ Stamped es clock ∧ es.toList.map (fun e => (e.key, e.val)) = l.map (fun p => (enc p.1, p.2)) ∧ (l.map (·.1)).Nodup ∧
      w.heap[r]? = some (.mapIter (some b) since seen c0) ∧ (∀ x ∈ es.toList, x.born < since) ∧ since ≤ c0 ∧ since ≤ clock ∧ (leftOf es seen).toList.map (fun e => (e.key, e.val)) = left.map (fun p => (enc p.1, p.2)) ∧ left.Sublist l
theorem KIter.keep {w w' : World} {m : Option Nat} {r : Nat} {l left : List (κ × Value)} {M : Nat → Prop} (h : KIter enc w m r l left) (k : Keep M w w') (hM : ∀ b, m = some b → ¬ M b) (hr : ¬ M r) : KIter enc w' m r l left := by
  cases m with
  | none => exact ⟨h.1, h.2.1, k.heap h.2.2 hr⟩
  | some b =>
    obtain ⟨es, clock, since, seen, c0, hb, hs, he, hn, hi, rest⟩ := h
    exact ⟨es, clock, since, seen, c0, k.heap hb (hM b rfl), hs, he, hn, k.heap hi hr, rest⟩
theorem KIter.map {w : World} {m : Option Nat} {r : Nat} {l left : List (κ × Value)} (h : KIter enc w m r l left) : KMapO enc w m l := by
  cases m with
  | none => exact h.1
  | some b => obtain ⟨es, clock, since, seen, c0, hb, hs, he, hn, _⟩ := h; exact ⟨es, clock, hb, hs, he, hn⟩
theorem KIter.sub {w : World} {m : Option Nat} {r : Nat} {l left : List (κ × Value)} (h : KIter enc w m r l left) : left.Sublist l := by
  cases m with
  | none => obtain ⟨rfl, rfl, _⟩ := h; exact List.Sublist.refl _
  | some b => obtain ⟨es, clock, since, seen, c0, hb, hs, he, hn, _, _, _, _, _, hsub⟩ := h; exact hsub
theorem KMapO.range {w : World} {m : Option Nat} {l : List (κ × Value)} (h : KMapO enc w m l) {t k e : TypeId} (ht : P.underlying t = some (.map k e)) :
    ∃ o, (Instr.range t (.map m)).run P w = .ok (.pointer (some ⟨w.heap.size, 0, none⟩)) (w.alloc o) ∧ KIter enc (w.alloc o) m w.heap.size l l := by
  cases m with
  | none => exact ⟨.mapIter none 0 #[] 0, run_range_nilMap w t k e ht, h, h, (MapKept.heap_alloc w _).1⟩
  | some b =>
    have hlt := KMap.lt h
    obtain ⟨es, clock, hb, hs, he, hn⟩ := h
    refine ⟨.mapIter (some b) clock #[] clock, run_range_map w t k e b es clock ht hb, es, clock, clock, #[], clock, ((MapKept.heap_alloc w _).2 b hlt).trans hb, hs, he, hn, (MapKept.heap_alloc w _).1, hs.1, Nat.le_refl _, Nat.le_refl _, ?_, List.Sublist.refl _⟩
    rw [← he]
    congr 1
    unfold leftOf
    rw [Array.toList_filter]
    exact List.filter_eq_self.2 (fun x _ => by simp)

theorem left_after {es : List MapEntry} {l : List (κ × Value)} {e : MapEntry} (hinj : ∀ {a b : κ}, enc a = enc b → a = b) : ∀ (L : List MapEntry) (left : List (κ × Value)), L.map (fun e => (e.key, e.val)) = left.map (fun p => (enc p.1, p.2)) → (left.map (·.1)).Nodup → (L.map (·.born)).Nodup → e ∈ L →
    ∃ p ∈ left, e.key = enc p.1 ∧ e.val = p.2 ∧ ∃ left', (L.filter (fun x => !(x.born == e.born))).map (fun e => (e.key, e.val)) = left'.map (fun p => (enc p.1, p.2)) ∧ left'.Sublist left ∧ left.Perm (p :: left')
  | [], _, _, _, _, h => by cases h
  | x :: L, left, h, hn, hb, hm => by
    cases left with
    | nil => simp at h
    | cons q left =>
      simp only [List.map_cons, List.cons.injEq, Prod.mk.injEq] at h
      obtain ⟨⟨h1, h2⟩, h3⟩ := h
      simp only [List.map_cons, List.nodup_cons] at hn hb
      by_cases hx : x.born = e.born
      · have hL : ∀ y ∈ L, y.born ≠ e.born := fun y hy ey => hb.1 (by rw [hx, ← ey]; exact List.mem_map.2 ⟨y, hy, rfl⟩)
        have hxe : x = e := by
          rcases List.mem_cons.1 hm with h' | h'
          · exact h'.symm
          · exact (hL e h' rfl).elim
        subst hxe
        refine ⟨q, .head _, h1, h2, left, ?_, List.sublist_cons_self _ _, List.Perm.refl _⟩
        have : L.filter (fun y => !(y.born == x.born)) = L := List.filter_eq_self.2 fun y hy => by simpa using hL y hy
        simp [this, h3]
      · have hm' : e ∈ L := by
          rcases List.mem_cons.1 hm with h' | h'
          · exact (hx (by rw [h'])).elim
          · exact h'
        obtain ⟨p, hp, e1, e2, left', e3, e4, e5⟩ := left_after (es := es) (l := l) hinj L left h3 hn.2 hb.2 hm'
        refine ⟨p, .tail _ hp, e1, e2, q :: left', ?_, e4.cons_cons q, ?_⟩
        · simp [hx, e3, h1, h2]
        · exact (e5.cons q).trans (List.Perm.swap _ _ _)

/-- One step of the loop. -/
theorem KIter.next {w : World} {m : Option Nat} {r : Nat} {l left : List (κ × Value)} (h : KIter enc w m r l left) (hinj : ∀ {a b : κ}, enc a = enc b → a = b) (ty : TypeId) :
    (left = [] ∧ (Instr.next (.pointer (some ⟨r, 0, none⟩)) false ty).run P w = .ok (.tuple #[.bool false]) w) ∨
    ∃ p left' w', left.Perm (p :: left') ∧ (Instr.next (.pointer (some ⟨r, 0, none⟩)) false ty).run P w = .ok (.tuple #[.bool true, enc p.1, p.2]) w' ∧ (Instr.entry (.pointer (some ⟨r, 0, none⟩))).run P w' = .ok (.tuple #[enc p.1, p.2]) w' ∧
      KIter enc w' m r l left' ∧ Keep (· = r) w w' ∧ w'.heap.size = w.heap.size := by
  cases m with
  | none =>
    obtain ⟨rfl, rfl, hr⟩ := h
    refine .inl ⟨rfl, ?_⟩
    simp [Instr.next, getObj, Sem.run, hr, Result.andThen]
  | some b =>
    obtain ⟨es, clock, since, seen, c0, hb, hs, he, hn, hi, hold, hsc, hcl, hl, hsub⟩ := h
    have hst := (stamped_iff es clock).1 hs
    rcases run_next_at (P := P) w ty r b since c0 seen es clock hi hb hold hsc with ⟨h0, hrun⟩ | ⟨e, hm, w1, hal, hrun⟩
    · left
      refine ⟨?_, hrun⟩
      have : left.length = 0 := by have := congrArg List.length hl; simp at this; omega
      exact List.eq_nil_of_length_eq_zero this
    · right
      obtain ⟨hmes, hseen⟩ := mem_left hm
      have hnl : (left.map (·.1)).Nodup := (hsub.map _).nodup hn
      have hnb : ((leftOf es seen).toList.map (·.born)).Nodup := by
        refine List.Sublist.nodup ?_ hs.2.1
        unfold leftOf
        rw [Array.toList_filter]
        exact List.filter_sublist.map _
      obtain ⟨p, hp, e1, e2, left', e3, e4, e5⟩ := left_after (es := es.toList) (l := l) hinj _ left hl hnl hnb hm
      have hne : r ≠ b := by intro e0; rw [e0, hb] at hi; cases hi
      have hrl : r < w.heap.size := (Array.getElem?_eq_some_iff.1 hi).1
      have hw1 : w1.heap = w.heap := by rcases hal with rfl | rfl <;> rfl
      have hb' : (setBlock w1 r (.mapIter (some b) since (seen.push e.born) clock)).heap[b]? = some (.map es clock) := by simp [setBlock, hw1, hne, hb]
      have hi' : (setBlock w1 r (.mapIter (some b) since (seen.push e.born) clock)).heap[r]? = some (.mapIter (some b) since (seen.push e.born) clock) := by simp [setBlock, hw1, hrl]
      refine ⟨p, left', _, e5, by rw [← e1, ← e2]; exact hrun, by rw [← e1, ← e2]; exact run_entry_at _ r b since seen es clock e hi' hb' hmes hs.2.1, ⟨es, clock, since, seen.push e.born, clock, hb', hs, he, hn, hi', hold, hcl, hcl, ?_, e4.trans hsub⟩, ?_, by simp [setBlock, hw1]⟩
      · rw [← e3]
        unfold leftOf
        simp only [Array.toList_filter, List.filter_filter, contains_push]
        congr 1
        apply List.filter_congr
        intro x _
        cases seen.contains x.born <;> cases (x.born == e.born) <;> rfl
      · have k1 : Keep (· = r) w w1 := by
          rcases hal with rfl | rfl
          · exact Keep.refl _ _
          · exact Keep.drew _ _
        exact k1.trans (Keep.setBlock (M := (· = r)) w1 r _ (fun _ => rfl)) (fun _ _ h => h) (fun _ _ h => h)
end

theorem KMapO.len {κ : Type} {enc : κ → Value} {P : Program} {w : World} {m : Option Nat} {l : List (κ × Value)} (h : KMapO enc w m l) {t k e : TypeId} (ht : P.underlying t = some (.map k e)) (ty : TypeId) :
    (Builtin.len_ #[t] ty #[.map m]).run P w = .ok (.int .i64 l.length) w := by
  cases m with
  | none => subst h; simp [Builtin.len_, run_underlying ht, Result.andThen, goInt]
  | some b =>
    obtain ⟨es, clock, hb, hs⟩ := run_len_kmap h
    simp [Builtin.len_, run_underlying ht, Result.andThen, MapKept.run_getObj_map hb, goInt, hs]
theorem run_makeMap_hint {P : Program} {t k e : TypeId} (ht : P.underlying t = some (.map k e)) (n : Int) (w : World) :
    (Instr.makeMap t (some (.int .i64 n))).run P w = .ok (.map (some w.heap.size)) (w.alloc (.map #[] 0)) := by
  simp [Instr.makeMap, run_underlying ht, asInt, asIntOf, Result.andThen]
end Go.Proofs.YtedgonoeeeiilaaGreatDoor
/- Plain functions on names and types of a schema: what the resolver computes; no program in sight. -/
namespace Go.Proofs.YtedgonoeeeiilaaGreatDoor

abbrev Str := ByteArray
instance lawfulBytes : LawfulBEq ByteArray where
  eq_of_beq h := (MapKept.bytes_beq _ _).1 h
  rfl := (MapKept.bytes_beq _ _).2 rfl

/-! ### strings -/
theorem isEmpty_iff (s : Str) : s.toList.isEmpty = true ↔ s = ByteArray.empty := by
  rw [ByteArray.toList_eq, List.isEmpty_iff]
  constructor
  · intro h; exact ByteArray.ext (Array.toList_inj.1 h)
  · intro h; rw [h]; rfl
theorem ne_empty {s : Str} (h : s ≠ ByteArray.empty) : s.toList.isEmpty = false := by
  rw [Bool.eq_false_iff]; exact fun e => h ((isEmpty_iff s).1 e)
theorem toList_beq {a b : Str} : (a.toList == b.toList) = true ↔ a = b := by
  rw [beq_iff_eq]
  constructor
  · intro h
    rw [ByteArray.toList_eq, ByteArray.toList_eq] at h
    exact ByteArray.ext (Array.toList_inj.1 h)
  · intro h; rw [h]

theorem beq_lit (s : Str) (l : List UInt8) : (s.toList == l) = decide (s = ⟨l.toArray⟩) := by
  by_cases h : s = ⟨l.toArray⟩
  · subst h
    rw [decide_eq_true rfl, beq_iff_eq, ByteArray.toList_eq]
  · rw [decide_eq_false h, beq_eq_false_iff_ne]
    intro e
    apply h
    rw [← e, ByteArray.toList_eq]

/-- sub stands in s at place i -/
def subAt (s sub : Str) (i : Nat) : Bool := decide (i + sub.size ≤ s.size ∧ s.extract i (i + sub.size) = sub)
def hasSub (s sub : Str) : Bool := (List.range (s.size + 1)).any (subAt s sub)
theorem hasSub_iff (s sub : Str) : hasSub s sub = true ↔ ∃ i, subAt s sub i = true := by
  unfold hasSub
  rw [List.any_eq_true]
  constructor
  · rintro ⟨i, _, h⟩; exact ⟨i, h⟩
  · rintro ⟨i, h⟩
    refine ⟨i, ?_, h⟩
    unfold subAt at h
    have := of_decide_eq_true h
    rw [List.mem_range]
    omega
theorem subAt_of_beq {s sub : Str} {j : Nat} (h1 : (j : Int) + (sub.size : Int) ≤ (s.size : Int)) {b : Bool} (h2 : ((s.extract j (j + sub.size)).toList == sub.toList) = b) : subAt s sub j = b := by
  unfold subAt
  cases b with
  | true => exact decide_eq_true ⟨by omega, toList_beq.1 h2⟩
  | false => exact decide_eq_false fun h => by rw [toList_beq.2 h.2] at h2; cases h2

/-- the whole name of something in a namespace -/
def qual (ns nm : Str) : Str := if ns = ByteArray.empty then nm else ns ++ ⟨#[58, 58]⟩ ++ nm

/-! ### types of a schema -/
inductive ATy where
  | str | long | bool
  | ext (s : Str)
  | set (t : ATy)
  | record (l : List (Str × ATy × Bool))
  | ent (s : Str)
  | ref (s : Str)
inductive RTy where
  | str | long | bool
  | ext (s : Str)
  | set (t : RTy)
  | record (l : List (Str × RTy × Bool))
  | ent (s : Str)
  deriving Inhabited

/-- what is declared: entity types, enumerations, common types, by whole names -/
structure Env where
  E : List Str
  N : List Str
  C : List (Str × ATy)

def Env.known (V : Env) (x : Str) : Prop := x ∈ V.E ∨ x ∈ V.N
instance (V : Env) (x : Str) : Decidable (V.known x) := inferInstanceAs (Decidable (x ∈ V.E ∨ x ∈ V.N))

/-- what a name of an entity type stands for -/
def entRef (V : Env) (ns ref : Str) : Option Str :=
  if hasSub ref ⟨#[58, 58]⟩ = true then if V.known ref then some ref else none
  else if ¬ ns = ByteArray.empty ∧ V.known (qual ns ref) then some (qual ns ref)
  else if V.known ref then some ref else none

/-- the types of the language -/
def builtinTy (s : Str) : Option RTy :=
  if s = ⟨#[83, 116, 114, 105, 110, 103]⟩ then some .str
  else if s = ⟨#[76, 111, 110, 103]⟩ then some .long
  else if s = ⟨#[66, 111, 111, 108]⟩ ∨ s = ⟨#[66, 111, 111, 108, 101, 97, 110]⟩ then some .bool
  else if s = ⟨#[105, 112, 97, 100, 100, 114]⟩ ∨ s = ⟨#[100, 101, 99, 105, 109, 97, 108]⟩ ∨ s = ⟨#[100, 97, 116, 101, 116, 105, 109, 101]⟩ ∨ s = ⟨#[100, 117, 114, 97, 116, 105, 111, 110]⟩ then some (.ext s)
  else none

/-- what stands ahead of the last two colons -/
def nsOf (s : Str) : Str :=
  if 0 ≤ Lib.lastIndex s.data.toList [58, 58] then s.extract 0 (Lib.lastIndex s.data.toList [58, 58]).toNat else ⟨#[]⟩

def resRec (f : ATy → Option (Option RTy)) (l : List (Str × ATy × Bool)) : Option (Option RTy) :=
  (l.mapM (fun p : Str × ATy × Bool => (f p.2.1).map fun r => (p.1, r, p.2.2))).map fun (l' : List (Str × Option RTy × Bool)) => (l'.mapM (fun p : Str × Option RTy × Bool => p.2.1.map fun r => (p.1, r, p.2.2))).map RTy.record

/-- a name with colons in it -/
def resQual (V : Env) (f : Str → ATy → Option (Option RTy)) (s : Str) : Option (Option RTy) :=
  if Lib.hasPrefix s.data.toList [95, 95, 99, 101, 100, 97, 114, 58, 58] = true then some (builtinTy (s.extract 9 s.size))
  else match kget V.C s with
    | some ct => f (nsOf s) ct
    | none => some (if V.known s then some (.ent s) else none)

/-- a name without -/
def resBare (V : Env) (f : Str → ATy → Option (Option RTy)) (ns s : Str) : Option (Option RTy) :=
  match (if ns = ByteArray.empty then none else kget V.C (qual ns s)) with
  | some ct => f ns ct
  | none =>
    if ¬ ns = ByteArray.empty ∧ V.known (qual ns s) then some (some (.ent (qual ns s)))
    else match kget V.C s with
      | some ct => f ⟨#[]⟩ ct
      | none => some (if V.known s then some (.ent s) else builtinTy s)

/-- what a type stands for, as far as so many steps tell -/
def resTy (V : Env) : Nat → Str → ATy → Option (Option RTy)
  | 0, _, _ => none
  | _ + 1, _, .str => some (some .str)
  | _ + 1, _, .long => some (some .long)
  | _ + 1, _, .bool => some (some .bool)
  | _ + 1, _, .ext s => some (some (.ext s))
  | n + 1, ns, .set t => (resTy V n ns t).map (Option.map RTy.set)
  | n + 1, ns, .record l => resRec (resTy V n ns) l
  | _ + 1, ns, .ent s => some ((entRef V ns s).map RTy.ent)
  | n + 1, ns, .ref s => if hasSub s ⟨#[58, 58]⟩ = true then resQual V (resTy V n) s else resBare V (resTy V n) ns s

theorem mapM_some {α β : Type} {f : α → Option β} : ∀ {l : List α} {l' : List β}, l.mapM f = some l' → (∀ x ∈ l, ∃ y ∈ l', f x = some y) ∧ (∀ y ∈ l', ∃ x ∈ l, f x = some y) ∧ l'.length = l.length
  | [], l', h => by
    simp at h; subst h; simp
  | x :: l, l', h => by
    rw [List.mapM_cons] at h
    simp only [Option.bind_eq_bind, Option.bind_eq_some_iff, Option.pure_def, Option.some.injEq] at h
    obtain ⟨y, hy, l2, hl2, rfl⟩ := h
    obtain ⟨h1, h2, h3⟩ := mapM_some hl2
    refine ⟨fun z hz => ?_, fun z hz => ?_, by simp [h3]⟩
    · rcases List.mem_cons.1 hz with rfl | hz
      · exact ⟨y, .head _, hy⟩
      · obtain ⟨q, hq, e⟩ := h1 z hz; exact ⟨q, .tail _ hq, e⟩
    · rcases List.mem_cons.1 hz with rfl | hz
      · exact ⟨x, .head _, hy⟩
      · obtain ⟨q, hq, e⟩ := h2 z hz; exact ⟨q, .tail _ hq, e⟩
theorem mapM_none {α β : Type} {f : α → Option β} : ∀ {l : List α}, l.mapM f = none → ∃ x ∈ l, f x = none
  | [], h => by simp at h
  | x :: l, h => by
    rw [List.mapM_cons] at h
    cases hx : f x with
    | none => exact ⟨x, .head _, hx⟩
    | some y =>
      cases hl : l.mapM f with
      | none => obtain ⟨z, hz, e⟩ := mapM_none hl; exact ⟨z, .tail _ hz, e⟩
      | some l2 => simp [hx, hl] at h

theorem resRec_some {f : ATy → Option (Option RTy)} {l : List (Str × ATy × Bool)} {r : Option RTy} (h : resRec f l = some r) :
    (∀ k t o, (k, t, o) ∈ l → ∃ x, f t = some x) ∧ ((∃ k t o, (k, t, o) ∈ l ∧ f t = some none) → r = none) ∧
    ((∀ k t o, (k, t, o) ∈ l → ∃ x, f t = some (some x)) → ∃ l', r = some (.record l') ∧ l'.map (·.1) = l.map (·.1) ∧ ∀ k x o, (k, x, o) ∈ l' → ∃ t, (k, t, o) ∈ l ∧ f t = some (some x)) := by
  unfold resRec at h
  cases h1 : l.mapM (fun p : Str × ATy × Bool => (f p.2.1).map fun r => (p.1, r, p.2.2)) with
  | none => rw [h1] at h; cases h
  | some l1 =>
    rw [h1] at h
    simp only [Option.map_some, Option.some.injEq] at h
    obtain ⟨a1, a2, a3⟩ := mapM_some h1
    refine ⟨fun k t o hm => ?_, ?_, ?_⟩
    · obtain ⟨y, _, e⟩ := a1 _ hm
      cases hf : f t with
      | none => rw [hf] at e; cases e
      | some x => exact ⟨x, rfl⟩
    · rintro ⟨k, t, o, hm, hf⟩
      obtain ⟨y, hy, e⟩ := a1 _ hm
      rw [hf] at e
      simp only [Option.map_some, Option.some.injEq] at e
      cases h2 : l1.mapM (fun p : Str × Option RTy × Bool => p.2.1.map fun r => (p.1, r, p.2.2)) with
      | none => rw [h2] at h; exact h.symm
      | some l2 =>
        obtain ⟨b1, _, _⟩ := mapM_some h2
        obtain ⟨z, _, e2⟩ := b1 _ hy
        rw [← e] at e2; cases e2
    · intro hall
      cases h2 : l1.mapM (fun p : Str × Option RTy × Bool => p.2.1.map fun r => (p.1, r, p.2.2)) with
      | none =>
        obtain ⟨y, hy, e⟩ := mapM_none h2
        obtain ⟨⟨k, t, o⟩, hm, e1⟩ := a2 _ hy
        obtain ⟨x, hx⟩ := hall k t o hm
        rw [hx] at e1
        simp only [Option.map_some, Option.some.injEq] at e1
        rw [← e1] at e; cases e
      | some l2 =>
        rw [h2] at h
        refine ⟨l2, h.symm, ?_, ?_⟩
        · have keys : ∀ {α β γ : Type} (g : Str × α → Option (Str × β)) (_ : ∀ p q, g p = some q → q.1 = p.1) (L : List (Str × α)) (L' : List (Str × β)), L.mapM g = some L' → L'.map (·.1) = L.map (·.1) := by
            intro α β γ g hg L
            induction L with
            | nil => intro L' h; simp at h; subst h; rfl
            | cons p L ih =>
              intro L' h
              rw [List.mapM_cons] at h
              simp only [Option.bind_eq_bind, Option.bind_eq_some_iff, Option.pure_def, Option.some.injEq] at h
              obtain ⟨y, hy, l2, hl2, rfl⟩ := h
              simp [hg p y hy, ih l2 hl2]
          rw [keys (γ := Unit) _ (fun p q e => by
            obtain ⟨a, b, c⟩ := p
            cases b with
            | none => cases e
            | some x => simp only [Option.map_some, Option.some.injEq] at e; rw [← e]) l1 l2 h2]
          exact keys (γ := Unit) _ (fun p q e => by
            obtain ⟨a, b, c⟩ := p
            cases hb : f b with
            | none => simp [hb] at e
            | some x => simp only [hb, Option.map_some, Option.some.injEq] at e; rw [← e]) l l1 h1
        · intro k x o hm
          obtain ⟨_, b2, _⟩ := mapM_some h2
          obtain ⟨⟨k1, x1, o1⟩, hm1, e1⟩ := b2 _ hm
          cases x1 with
          | none => cases e1
          | some x1 =>
            simp only [Option.map_some, Option.some.injEq, Prod.mk.injEq] at e1
            obtain ⟨rfl, rfl, rfl⟩ := e1
            obtain ⟨⟨k2, t2, o2⟩, hm2, e2⟩ := a2 _ hm1
            cases hf : f t2 with
            | none => simp [hf] at e2
            | some y =>
              simp only [hf, Option.map_some, Option.some.injEq, Prod.mk.injEq] at e2
              obtain ⟨rfl, rfl, rfl⟩ := e2
              exact ⟨t2, hm2, hf⟩

end Go.Proofs.YtedgonoeeeiilaaGreatDoor
/- How the data of a schema lie in memory; no walk of the program. -/
namespace Go.Proofs.YtedgonoeeeiilaaGreatDoor
open Go.RowKit

theorem NoB.not (b : Nat) : ¬ NoB b := fun h => h

/-- Cells one behind the other. -/
def CellsAt (w : World) (b off : Nat) (cs : List Value) : Prop := ∀ j v, cs[j]? = some v → w.cell? ⟨b, off + j, none⟩ = some v
theorem CellsAt.keep {w w' : World} {M : Nat → Prop} {b off : Nat} {cs : List Value} (h : CellsAt w b off cs) (k : Keep M w w') (hM : ¬ M b) : CellsAt w' b off cs :=
  fun j v hj => k.cell (h j v hj) hM

/-- A slice value of n elements of k cells each; element i's cells are f i. -/
def SliceAt (w : World) (M : Nat → Prop) (k n : Nat) (v : Value) (f : Nat → List Value) : Prop :=
  ∃ ov c, v = .slice ov n c ∧ (n = 0 ∨ ∃ b off, ov = some ⟨b, off, none⟩ ∧ ¬ M b ∧ ∀ i, i < n → (f i).length = k ∧ CellsAt w b (off + i * k) (f i))
theorem SliceAt.keep {w w' : World} {M M' M2 : Nat → Prop} {k n : Nat} {v : Value} {f : Nat → List Value} (h : SliceAt w M k n v f) (hk : Keep M2 w w') (h2 : ∀ i, i < w.heap.size → M2 i → M i) (h3 : ∀ i, i < w.heap.size → M' i → M i) (hpos : n = 0 ∨ 0 < k) : SliceAt w' M' k n v f := by
  obtain ⟨ov, c, hv, h⟩ := h
  refine ⟨ov, c, hv, ?_⟩
  rcases h with h | ⟨b, off, e, hM, hc⟩
  · exact .inl h
  · rcases Nat.eq_zero_or_pos n with h0 | h0
    · exact .inl h0
    · have hk0 : 0 < k := by omega
      have hb : b < w.heap.size := by
        obtain ⟨h4, h5⟩ := hc 0 h0
        have h6 : (f 0)[0]? = some (f 0)[0] := List.getElem?_eq_getElem (by omega)
        exact block_lt_of_cell (h5 0 _ h6)
      exact .inr ⟨b, off, e, fun h => hM (h3 b hb h), fun i hi => ⟨(hc i hi).1, (hc i hi).2.keep hk (fun h => hM (h2 b hb h))⟩⟩

/-- A map's values are those of a list by key, in whatever order. -/
structure MapRel {κ α : Type} (R : α → Value → Prop) (l : List (κ × α)) (lv : List (κ × Value)) : Prop where
  nodup : (l.map (·.1)).Nodup
  len : lv.length = l.length
  rel : ∀ k x, (k, x) ∈ l → ∃ v, (k, v) ∈ lv ∧ R x v

theorem MapRel.mono {κ α : Type} {R R' : α → Value → Prop} {l : List (κ × α)} {lv : List (κ × Value)} (h : MapRel R l lv) (hR : ∀ k x v, (k, x) ∈ l → R x v → R' x v) : MapRel R' l lv :=
  ⟨h.nodup, h.len, fun k x hx => let ⟨v, h1, h2⟩ := h.rel k x hx; ⟨v, h1, hR k x v hx h2⟩⟩

/-- A type of the syntax tree, as a value. -/
inductive ATyIs (w : World) (M : Nat → Prop) : ATy → Value → Prop
  | str : ATyIs w M .str (.iface 237 (.agg #[]))
  | long : ATyIs w M .long (.iface 239 (.agg #[]))
  | bool : ATyIs w M .bool (.iface 241 (.agg #[]))
  | ext (s : Str) : s.size ≤ 1000000 → ATyIs w M (.ext s) (.iface 242 (.string s))
  | set {t : ATy} {v : Value} : ATyIs w M t v → ATyIs w M (.set t) (.iface 244 (.agg #[v]))
  | record {l : List (Str × ATy × Bool)} {lv : List (Str × Value)} {b : Nat} {f : Str → Value} {an : Str → Option Nat} : KMap Value.string w b lv → ¬ M b → (l.map (·.1)).Nodup → lv.length = l.length →
      (∀ k t o, (k, t, o) ∈ l → (k, .agg #[f k, .bool o, .map (an k)]) ∈ lv) → (∀ k t o, (k, t, o) ∈ l → ATyIs w M t (f k)) → ATyIs w M (.record l) (.iface 181 (.map (some b)))
  | ent (s : Str) : s.size ≤ 1000000 → ATyIs w M (.ent s) (.iface 230 (.string s))
  | ref (s : Str) : s.size ≤ 1000000 → ATyIs w M (.ref s) (.iface 246 (.string s))

/-- A resolved type, as a value. -/
inductive RTyIs (w : World) (M : Nat → Prop) : RTy → Value → Prop
  | str : RTyIs w M .str (.iface 157 (.agg #[]))
  | long : RTyIs w M .long (.iface 158 (.agg #[]))
  | bool : RTyIs w M .bool (.iface 159 (.agg #[]))
  | ext (s : Str) : s.size ≤ 3000000 → RTyIs w M (.ext s) (.iface 160 (.string s))
  | set {t : RTy} {v : Value} : RTyIs w M t v → RTyIs w M (.set t) (.iface 162 (.agg #[v]))
  | record {l : List (Str × RTy × Bool)} {lv : List (Str × Value)} {b : Nat} {f : Str → Value} {an : Str → Option Nat} : KMap Value.string w b lv → ¬ M b → (l.map (·.1)).Nodup → lv.length = l.length →
      (∀ k t o, (k, t, o) ∈ l → (k, .agg #[f k, .bool o, .map (an k)]) ∈ lv) → (∀ k t o, (k, t, o) ∈ l → RTyIs w M t (f k)) → RTyIs w M (.record l) (.iface 75 (.map (some b)))
  | ent (s : Str) : s.size ≤ 3000000 → RTyIs w M (.ent s) (.iface 163 (.string s))

theorem ATyIs.iface {w : World} {M : Nat → Prop} {t : ATy} {v : Value} (h : ATyIs w M t v) : ∃ T x, v = .iface T x := by
  cases h <;> exact ⟨_, _, rfl⟩
theorem RTyIs.iface {w : World} {M : Nat → Prop} {t : RTy} {v : Value} (h : RTyIs w M t v) : ∃ T x, v = .iface T x := by
  cases h <;> exact ⟨_, _, rfl⟩
theorem RTyIs.mkRecord {w : World} {M : Nat → Prop} {l : List (Str × RTy × Bool)} {lv : List (Str × Value)} {b : Nat} (hm : KMap Value.string w b lv) (hM : ¬ M b) (hn : (l.map (·.1)).Nodup) (hl : lv.length = l.length)
    (h : ∀ k t o, (k, t, o) ∈ l → ∃ v an, (k, .agg #[v, .bool o, .map an]) ∈ lv ∧ RTyIs w M t v) : RTyIs w M (.record l) (.iface 75 (.map (some b))) := by
  have h' : ∀ k, ∃ v an, ∀ t o, (k, t, o) ∈ l → (k, .agg #[v, .bool o, .map an]) ∈ lv ∧ RTyIs w M t v := by
    intro k
    by_cases hk : ∃ t o, (k, t, o) ∈ l
    · obtain ⟨t, o, hk⟩ := hk
      obtain ⟨v, an, h1, h2⟩ := h k t o hk
      refine ⟨v, an, fun t' o' hk' => ?_⟩
      have := key_unique hn hk hk'
      simp only [Prod.mk.injEq] at this
      rw [← this.1, ← this.2]; exact ⟨h1, h2⟩
    · exact ⟨.nilIface, none, fun t o hk' => (hk ⟨t, o, hk'⟩).elim⟩
  exact .record (f := fun k => (h' k).choose) (an := fun k => (h' k).choose_spec.choose) hm hM hn hl (fun k t o hk => ((h' k).choose_spec.choose_spec t o hk).1) (fun k t o hk => ((h' k).choose_spec.choose_spec t o hk).2)

theorem ATyIs.keep {w w' : World} {M M' M2 : Nat → Prop} (hk : Keep M2 w w') (h2 : ∀ i, i < w.heap.size → M2 i → M i) (h3 : ∀ i, i < w.heap.size → M' i → M i) {t : ATy} {v : Value} (h : ATyIs w M t v) : ATyIs w' M' t v := by
  induction h with
  | str => exact .str
  | long => exact .long
  | bool => exact .bool
  | ext s hs => exact .ext s hs
  | set _ ih => exact .set ih
  | record hm hM hn hl ha _ ih => exact .record (hm.keep hk (fun h => hM (h2 _ hm.lt h))) (fun h => hM (h3 _ hm.lt h)) hn hl ha ih
  | ent s hs => exact .ent s hs
  | ref s hs => exact .ref s hs
theorem RTyIs.keep {w w' : World} {M M' M2 : Nat → Prop} (hk : Keep M2 w w') (h2 : ∀ i, i < w.heap.size → M2 i → M i) (h3 : ∀ i, i < w.heap.size → M' i → M i) {t : RTy} {v : Value} (h : RTyIs w M t v) : RTyIs w' M' t v := by
  induction h with
  | str => exact .str
  | long => exact .long
  | bool => exact .bool
  | ext s hs => exact .ext s hs
  | set _ ih => exact .set ih
  | record hm hM hn hl ha _ ih => exact .record (hm.keep hk (fun h => hM (h2 _ hm.lt h))) (fun h => hM (h3 _ hm.lt h)) hn hl ha ih
  | ent s hs => exact .ent s hs

theorem zeroBool (w : World) : (zeroValue 4).run Tryz.prog w = .ok (.bool false) w := by kernel_rfl
/-- a set of names, kept as a map to bools -/
def BSet (w : World) (b : Nat) (l : List Str) : Prop := KMap Value.string w b (l.map fun x => (x, Value.bool true))
theorem kget_set (l : List Str) (x : Str) : (kget (l.map fun x => (x, Value.bool true)) x).getD (.bool false) = .bool (decide (x ∈ l)) := by
  induction l with
  | nil => rfl
  | cons y l ih =>
    unfold kget at *
    by_cases h : y = x
    · subst h; simp
    · have h' : ¬ x = y := fun e => h e.symm
      simp only [List.map_cons, List.find?_cons, h, decide_false, ih, List.mem_cons, h', false_or]
theorem BSet.keep {w w' : World} {M : Nat → Prop} {b : Nat} {l : List Str} (h : BSet w b l) (k : Keep M w w') (hM : ¬ M b) : BSet w' b l := KMap.keep h k hM
theorem BSet.lookup {w : World} {b : Nat} {l : List Str} (h : BSet w b l) (x : Str) :
    (Instr.lookup 206 (.map (some b)) (.string x) false).run Tryz.prog w = .ok (.bool (decide (x ∈ l))) w := by
  have := KMap.lookup h (strKey Tryz.underlying67) Tryz.underlying206 (zeroBool w) x false
  rw [this]
  simp only [Bool.false_eq_true, if_false, kget_set]

/-- The blocks that the state's types do not lie in. -/
def RSD (M : Nat → Prop) (mE mN mC : Nat) : Nat → Prop := fun i => M i ∨ i = mE ∨ i = mN ∨ i = mC
/-- The state of the resolver: three maps behind a pointer. -/
structure RS (w : World) (M : Nat → Prop) (b mE mN mC : Nat) (V : Env) : Prop where
  c0 : w.cell? ⟨b, 0, none⟩ = some (.map (some mE))
  c1 : w.cell? ⟨b, 1, none⟩ = some (.map (some mN))
  c2 : w.cell? ⟨b, 2, none⟩ = some (.map (some mC))
  nb : ¬ M b
  nE : ¬ M mE
  nN : ¬ M mN
  nC : ¬ M mC
  apart : mE ≠ mN ∧ mE ≠ mC ∧ mN ≠ mC
  ents : BSet w mE V.E
  enums : BSet w mN V.N
  commons : ∃ lv, KMap Value.string w mC lv ∧ MapRel (ATyIs w (RSD M mE mN mC)) V.C lv

theorem RS.commons' {w : World} {M : Nat → Prop} {b mE mN mC : Nat} {V : Env} (h : RS w M b mE mN mC V) : ∃ lv, KMap Value.string w mC lv ∧ MapRel (ATyIs w M) V.C lv := by
  obtain ⟨lv, hC, hR⟩ := h.commons
  exact ⟨lv, hC, hR.mono fun _ _ _ _ q => q.keep (Keep.refl NoB w) (fun _ _ h => h.elim) (fun _ _ h => .inl h)⟩
theorem RS.keep {w w' : World} {M M' M2 : Nat → Prop} {b mE mN mC : Nat} {V : Env} (h : RS w M b mE mN mC V) (hk : Keep M2 w w') (h2 : ∀ i, i < w.heap.size → M2 i → M i) (h3 : ∀ i, i < w.heap.size → M' i → M i) : RS w' M' b mE mN mC V := by
  have lb : b < w.heap.size := block_lt_of_cell h.c0
  have lE := h.ents.lt
  have lN := h.enums.lt
  obtain ⟨lv, hC, hR⟩ := h.commons
  have lC := hC.lt
  exact ⟨hk.cell h.c0 (fun q => h.nb (h2 _ lb q)), hk.cell h.c1 (fun q => h.nb (h2 _ lb q)), hk.cell h.c2 (fun q => h.nb (h2 _ lb q)),
    fun q => h.nb (h3 _ lb q), fun q => h.nE (h3 _ lE q), fun q => h.nN (h3 _ lN q), fun q => h.nC (h3 _ lC q), h.apart,
    h.ents.keep hk (fun q => h.nE (h2 _ lE q)), h.enums.keep hk (fun q => h.nN (h2 _ lN q)),
    lv, hC.keep hk (fun q => h.nC (h2 _ lC q)), hR.mono fun _ _ _ _ q => q.keep hk (fun i hi h => .inl (h2 i hi h)) (fun i hi h => h.elim (fun h => .inl (h3 i hi h)) .inr)⟩

/-- An error or none, behind a value: what a function with two results returns. -/
def ErrOr (v : Option Value) (z : Value) (e : Ending) : Prop :=
  match v with
  | some x => e = .returned (.tuple #[x, .nilIface])
  | none => ∃ a, e = .returned (.tuple #[z, .iface 296 (.pointer (some a))])
/-- An error or none alone. -/
def Err1 (ok : Bool) (e : Ending) : Prop :=
  if ok then e = .returned .nilIface else ∃ a, e = .returned (.iface 296 (.pointer (some a)))
end Go.Proofs.YtedgonoeeeiilaaGreatDoor
