/- Plain laws on maps in memory, keys of any kind that the model can look up; no program in sight. -/
import Derived.Maps.Keyed
import Derived.Laws.IdiomRangeMap
import Derived.Maps.RangeRun
import Derived.Below
namespace Go.Proofs.YtjclpmgfcaadmaaGreatDoor
open Go.MapKept Go.RowKit
open Go.ChangeMaps (setBlock)

/-- A change of the world that leaves every old block but those of M as it was. -/
structure Keep (M : Nat → Prop) (w w' : World) : Prop where
  os : w'.os = w.os
  tape : w'.tape = w.tape
  output : w'.output = w.output
  size : w.heap.size ≤ w'.heap.size
  block : ∀ k, k < w.heap.size → ¬ M k → w'.heap[k]? = w.heap[k]?

theorem Keep.refl (M : Nat → Prop) (w : World) : Keep M w w := ⟨rfl, rfl, rfl, Nat.le_refl _, fun _ _ _ => rfl⟩
theorem Keep.trans {M M' M'' : Nat → Prop} {a b c : World} (h : Keep M a b) (k : Keep M' b c) (h1 : ∀ i, i < a.heap.size → M i → M'' i) (h2 : ∀ i, i < a.heap.size → M' i → M'' i) : Keep M'' a c :=
  ⟨k.os.trans h.os, k.tape.trans h.tape, k.output.trans h.output, Nat.le_trans h.size k.size, fun i hi hn =>
    (k.block i (Nat.lt_of_lt_of_le hi h.size) (fun e => hn (h2 i hi e))).trans (h.block i hi (fun e => hn (h1 i hi e)))⟩
theorem Keep.mono {M M' : Nat → Prop} {a b : World} (h : Keep M a b) (h1 : ∀ i, i < a.heap.size → M i → M' i) : Keep M' a b :=
  ⟨h.os, h.tape, h.output, h.size, fun i hi hn => h.block i hi (fun e => hn (h1 i hi e))⟩
/-- nothing old has turned -/
def NoB : Nat → Prop := fun _ => False
theorem Keep.then {a b c : World} {M : Nat → Prop} (h : Keep M a b) (k : Keep NoB b c) : Keep M a c := h.trans k (fun _ _ h => h) (fun _ _ h => h.elim)
theorem Keep.first {a b c : World} {M : Nat → Prop} (h : Keep NoB a b) (k : Keep M b c) : Keep M a c := h.trans k (fun _ _ h => h.elim) (fun _ _ h => h)
theorem Keep.alloc (w : World) (o : Obj) (M : Nat → Prop) : Keep M w (w.alloc o) :=
  ⟨rfl, rfl, rfl, by simp, fun k hk _ => Below.heap_alloc _ _ _ hk⟩
theorem Keep.drew (w : World) (M : Nat → Prop) : Keep M w w.drew := ⟨rfl, rfl, rfl, Nat.le_refl _, fun _ _ _ => rfl⟩
theorem Keep.setCell {M : Nat → Prop} (w : World) (p : Addr) (u : Value) (h : p.block < w.heap.size → M p.block) : Keep M w (w.setCell p u) :=
  ⟨rfl, rfl, rfl, by simp [World.setCell], fun k hk hn => Below.heap_setCell _ _ _ _ (fun e => hn (e ▸ h (e ▸ hk)))⟩
theorem Keep.setBlock {M : Nat → Prop} (w : World) (b : Nat) (o : Obj) (h : b < w.heap.size → M b) : Keep M w (setBlock w b o) :=
  ⟨rfl, rfl, rfl, by simp [Go.ChangeMaps.setBlock], fun k hk hn => by
    have hne : b ≠ k := fun e => hn (e ▸ h (e ▸ hk))
    simp [Go.ChangeMaps.setBlock, hne]⟩
theorem Keep.below {w w' : World} {B : Nat} {M : Nat → Prop} (h : Below B w w') (hM : ∀ i, i < w.heap.size → B ≤ i → M i) : Keep M w w' :=
  ⟨h.os, h.tape, h.output, h.size, fun k hk hn => h.block k (by
    rcases Nat.lt_or_ge k B with h' | h'
    · exact h'
    · exact (hn (hM k hk h')).elim)⟩
theorem Keep.toBelow {w w' : World} {M : Nat → Prop} {B : Nat} (h : Keep M w w') (hB : B ≤ w.heap.size) (hM : ∀ i, i < B → ¬ M i) : Below B w w' :=
  ⟨h.os, h.tape, h.output, h.size, fun k hk => h.block k (by omega) (hM k hk)⟩
theorem Keep.grown {w w' : World} {row : Option Nat} {M : Nat → Prop} (h : w.grownBy w' row) (hM : ∀ i, row = some i → i < w.heap.size → M i) : Keep M w w' :=
  ⟨h.os, h.tape, h.output, h.size, fun k hk hn => h.block k hk (fun e => hn (hM k e.symm hk))⟩
theorem Keep.cell {M : Nat → Prop} {w w' : World} (h : Keep M w w') {p : Addr} {v : Value} (hp : w.cell? p = some v) (hM : ¬ M p.block) : w'.cell? p = some v := by
  have hb : p.block < w.heap.size := block_lt_of_cell hp
  rw [World.cell?_of_block (w := w) (h.block p.block hb hM)]; exact hp
theorem Keep.heap {M : Nat → Prop} {w w' : World} (h : Keep M w w') {b : Nat} {o : Obj} (hp : w.heap[b]? = some o) (hM : ¬ M b) : w'.heap[b]? = some o := by
  have hb : b < w.heap.size := (Array.getElem?_eq_some_iff.1 hp).1
  rw [h.block b hb hM]; exact hp

/-! ### lists by key -/
section
variable {κ α : Type} [DecidableEq κ]
def kget (l : List (κ × α)) (k : κ) : Option α := (l.find? (fun p => decide (p.1 = k))).map (·.2)
def kput (l : List (κ × α)) (k : κ) (v : α) : List (κ × α) :=
  if l.any (fun p => decide (p.1 = k)) then l.map (fun p => if p.1 = k then (k, v) else p) else l ++ [(k, v)]
theorem kget_none {l : List (κ × α)} {k : κ} (h : ∀ p ∈ l, p.1 ≠ k) : kget l k = none := by
  unfold kget
  rw [List.find?_eq_none.2 (fun p hp => by simpa using h p hp)]; rfl
theorem kget_mem {l : List (κ × α)} (hn : (l.map (·.1)).Nodup) {k : κ} {v : α} (h : (k, v) ∈ l) : kget l k = some v := by
  induction l with
  | nil => cases h
  | cons p l ih =>
    simp only [List.map_cons, List.nodup_cons] at hn
    unfold kget
    by_cases e : p.1 = k
    · simp only [List.find?_cons, e, decide_true]
      rcases List.mem_cons.1 h with h1 | h1
      · rw [← h1]; rfl
      · exact (hn.1 (e ▸ List.mem_map.2 ⟨_, h1, rfl⟩)).elim
    · simp only [List.find?_cons, e, decide_false]
      rcases List.mem_cons.1 h with h1 | h1
      · rw [← h1] at e; exact (e rfl).elim
      · exact ih hn.2 h1
theorem kget_some {l : List (κ × α)} {k : κ} {v : α} (h : kget l k = some v) : (k, v) ∈ l := by
  unfold kget at h
  cases hf : l.find? (fun p => decide (p.1 = k)) with
  | none => rw [hf] at h; cases h
  | some p =>
    rw [hf] at h
    have h1 := List.find?_some hf
    have h2 := List.mem_of_find?_eq_some hf
    simp only [decide_eq_true_eq] at h1
    simp only [Option.map_some, Option.some.injEq] at h
    obtain ⟨a, b⟩ := p
    cases h1; cases h; exact h2
theorem kput_fresh {l : List (κ × α)} {k : κ} (v : α) (h : ∀ p ∈ l, p.1 ≠ k) : kput l k v = l ++ [(k, v)] := by
  unfold kput
  rw [if_neg]
  simp only [List.any_eq_true, decide_eq_true_eq, not_exists, not_and]
  exact h
theorem kput_keys {l : List (κ × α)} {k : κ} (v : α) : (kput l k v).map (·.1) = if l.any (fun p => decide (p.1 = k)) then l.map (·.1) else l.map (·.1) ++ [k] := by
  unfold kput
  split
  · rw [List.map_map]
    apply List.map_congr_left
    intro p _
    simp only [Function.comp]
    split
    · rename_i e; exact e.symm
    · rfl
  · simp
theorem kput_nodup {l : List (κ × α)} (hn : (l.map (·.1)).Nodup) (k : κ) (v : α) : ((kput l k v).map (·.1)).Nodup := by
  rw [kput_keys]
  split
  · exact hn
  · rename_i h
    refine List.nodup_append.2 ⟨hn, by simp, ?_⟩
    intro a ha b hb e
    simp only [List.mem_singleton] at hb
    subst hb; subst e
    obtain ⟨p, hp, e⟩ := List.mem_map.1 ha
    exact h (List.any_eq_true.2 ⟨p, hp, by simpa using e⟩)
theorem kget_kput {l : List (κ × α)} {k k' : κ} (v : α) : kget (kput l k v) k' = if k = k' then some v else kget l k' := by
  unfold kput
  split
  · rename_i h
    induction l with
    | nil => simp at h
    | cons p l ih =>
      unfold kget
      by_cases e : p.1 = k
      · by_cases e' : k = k'
        · simp [e, e']
        · simp only [List.map_cons, e, if_true, List.find?_cons, e', decide_false, if_false]
          by_cases h2 : (l.any fun p => decide (p.1 = k)) = true
          · have := ih h2; unfold kget at this; rw [if_neg e'] at this; exact this
          · have hid : l.map (fun p => if p.1 = k then (k, v) else p) = l := by
              conv => rhs; rw [← List.map_id l]
              apply List.map_congr_left
              intro q hq
              rw [if_neg]; rfl
              intro e2
              exact h2 (List.any_eq_true.2 ⟨q, hq, by simpa using e2⟩)
            rw [hid]
      · have h2 : (l.any fun p => decide (p.1 = k)) = true := by simpa [e] using h
        have := ih h2; unfold kget at this
        simp only [List.map_cons, e, if_false, List.find?_cons]
        by_cases e3 : p.1 = k'
        · have : ¬ k = k' := fun e4 => e (e3.trans e4.symm)
          simp [e3, this]
        · simp only [e3, decide_false]; exact this
  · rename_i h
    have hk : ∀ p ∈ l, p.1 ≠ k := fun p hp e => h (List.any_eq_true.2 ⟨p, hp, by simpa using e⟩)
    unfold kget
    rw [List.find?_append]
    by_cases e : k = k'
    · subst e
      rw [List.find?_eq_none.2 (fun p hp => by simpa using hk p hp)]
      simp
    · rw [if_neg e]
      simp [e]
end

theorem length_le_of_subset {κ : Type} [DecidableEq κ] : ∀ {a b : List κ}, a.Nodup → (∀ x ∈ a, x ∈ b) → a.length ≤ b.length
  | [], _, _, _ => Nat.zero_le _
  | x :: a, b, hn, hs => by
    have hx : x ∈ b := hs x (.head _)
    have h1 := length_le_of_subset (a := a) (b := b.erase x) (List.nodup_cons.1 hn).2 (fun y hy => by
      have hne : y ≠ x := fun e => (List.nodup_cons.1 hn).1 (e ▸ hy)
      exact (List.mem_erase_of_ne hne).2 (hs y (.tail _ hy)))
    rw [List.length_erase_of_mem hx] at h1
    have : 0 < b.length := List.length_pos_of_mem hx
    simp only [List.length_cons]
    omega
theorem subset_back {κ : Type} [DecidableEq κ] {a b : List κ} (hn : a.Nodup) (hs : ∀ x ∈ a, x ∈ b) (hl : b.length ≤ a.length) : ∀ x ∈ b, x ∈ a := by
  intro x hx
  by_cases h : x ∈ a
  · exact h
  · have h1 := length_le_of_subset (a := x :: a) (b := b) (List.nodup_cons.2 ⟨h, hn⟩) (fun y hy => by
      rcases List.mem_cons.1 hy with rfl | hy
      · exact hx
      · exact hs y hy)
    simp only [List.length_cons] at h1
    omega
theorem key_unique {κ α : Type} {l : List (κ × α)} (hn : (l.map (·.1)).Nodup) {k : κ} {a b : α} (ha : (k, a) ∈ l) (hb : (k, b) ∈ l) : a = b := by
  induction l with
  | nil => cases ha
  | cons p l ih =>
    simp only [List.map_cons, List.nodup_cons] at hn
    rcases List.mem_cons.1 ha with h1 | h1
    · rcases List.mem_cons.1 hb with h2 | h2
      · exact congrArg Prod.snd (h1.trans h2.symm)
      · exact (hn.1 (List.mem_map.2 ⟨_, h2, by rw [← h1]⟩)).elim
    · rcases List.mem_cons.1 hb with h2 | h2
      · exact (hn.1 (List.mem_map.2 ⟨_, h1, by rw [← h2]⟩)).elim
      · exact ih hn.2 h1 h2
/-- Two lists by key, of one length, the first one's keys among the second one's: each of the second one's is one of the first one's. -/
theorem entry_back {κ α β : Type} [DecidableEq κ] {l : List (κ × α)} {lv : List (κ × β)} (hn : (l.map (·.1)).Nodup) (hv : (lv.map (·.1)).Nodup) (hl : lv.length = l.length) (g : κ → α → β) (h : ∀ k x, (k, x) ∈ l → (k, g k x) ∈ lv) :
    ∀ k v, (k, v) ∈ lv → ∃ x, (k, x) ∈ l ∧ v = g k x := by
  intro k v hm
  have h1 := subset_back hn (b := lv.map (·.1)) (fun x hx => by
    obtain ⟨p, hp, rfl⟩ := List.mem_map.1 hx
    exact List.mem_map.2 ⟨_, h p.1 p.2 hp, rfl⟩) (by simp [hl]) k (List.mem_map.2 ⟨_, hm, rfl⟩)
  obtain ⟨⟨k', x⟩, hx, rfl⟩ := List.mem_map.1 h1
  exact ⟨x, hx, key_unique hv hm (h _ x hx)⟩

/-! ### a kind of keys -/
/-- What the model's looking up asks of keys of type 'kt' that are the values 'enc x'. -/
structure KeyRun (P : Program) (kt : TypeId) {κ : Type} (enc : κ → Value) : Prop where
  inj : ∀ {a b : κ}, enc a = enc b → a = b
  check : ∀ (w : World) (em : Bool) (x : κ), (Instr.checkKey em 10000 kt (enc x)).run P w = .ok () w
  find : ∀ (w : World) (x : κ) (es : List MapEntry), (∀ e ∈ es, ∃ y, e.key = enc y) →
    ((Instr.findKey kt (enc x) es).run P w = .ok none w ∧ ∀ e ∈ es, e.key ≠ enc x) ∨ ∃ j e, (Instr.findKey kt (enc x) es).run P w = .ok (some (j, e.val)) w ∧ es[j]? = some e ∧ e.key = enc x
  stays : ∀ (w : World) (x : κ), (Instr.keyThatStays (enc x) (enc x)).run P w = .ok (enc x) w

theorem strKey {P : Program} {kt : TypeId} (h : P.underlying kt = some .string) : KeyRun P kt Value.string where
  inj := fun h => by cases h; rfl
  check := fun w em x => run_checkKey h (by trivial) em 9999
  find := fun w x es hes => by
    have hk : ∀ e ∈ es, IsKey .string e.key := fun e he => by obtain ⟨y, hy⟩ := hes e he; rw [hy]; trivial
    rcases findNow_spec (d := .string) (k := .string x) trivial es 0 hk with ⟨h1, h2⟩ | ⟨j, e, h1, h2, h3⟩
    · exact .inl ⟨run_findKey h h1, h2⟩
    · exact .inr ⟨j, e, by rw [run_findKey h h1, Nat.zero_add], h2, h3⟩
  stays := fun w x => run_keyThatStays (d := .string) trivial

section
variable {κ : Type} {P : Program} {kt : TypeId} {enc : κ → Value}

/-- Block b of w is a map that holds just l, in the order of their making. -/
def KMap (enc : κ → Value) (w : World) (b : Nat) (l : List (κ × Value)) : Prop :=
  ∃ es clock, w.heap[b]? = some (.map es clock) ∧ Stamped es clock ∧ es.toList.map (fun e => (e.key, e.val)) = l.map (fun p => (enc p.1, p.2)) ∧ (l.map (·.1)).Nodup

theorem KMap.lt {w : World} {b : Nat} {l : List (κ × Value)} (h : KMap enc w b l) : b < w.heap.size := by
  obtain ⟨es, clock, hb, _⟩ := h
  exact (Array.getElem?_eq_some_iff.1 hb).1
theorem KMap.of_block {w w' : World} {b : Nat} {l : List (κ × Value)} (h : KMap enc w b l) (e : w'.heap[b]? = w.heap[b]?) : KMap enc w' b l := by
  obtain ⟨es, clock, hb, r⟩ := h
  exact ⟨es, clock, e.trans hb, r⟩
theorem KMap.keep {w w' : World} {b : Nat} {l : List (κ × Value)} {M : Nat → Prop} (h : KMap enc w b l) (k : Keep M w w') (hM : ¬ M b) : KMap enc w' b l :=
  h.of_block (k.block b h.lt hM)
theorem KMap.made (w : World) : KMap enc (w.alloc (.map #[] 0)) w.heap.size [] :=
  ⟨#[], 0, (MapKept.heap_alloc w _).1, stamped_empty 0, rfl, by simp⟩
theorem KMap.nodup {w : World} {b : Nat} {l : List (κ × Value)} (h : KMap enc w b l) : (l.map (·.1)).Nodup := by
  obtain ⟨_, _, _, _, _, hn⟩ := h; exact hn

theorem entries_keyed {es : List MapEntry} {l : List (κ × Value)} (h : es.map (fun e => (e.key, e.val)) = l.map (fun p => (enc p.1, p.2))) : ∀ e ∈ es, ∃ p ∈ l, e.key = enc p.1 ∧ e.val = p.2 := by
  intro e he
  have : (e.key, e.val) ∈ es.map (fun e => (e.key, e.val)) := List.mem_map.2 ⟨e, he, rfl⟩
  rw [h] at this
  obtain ⟨p, hp, e1⟩ := List.mem_map.1 this
  simp only [Prod.mk.injEq] at e1
  exact ⟨p, hp, e1.1.symm, e1.2.symm⟩

variable [DecidableEq κ]
/-- 'm[k]' and 'v, ok := m[k]' -/
theorem KMap.lookup {w : World} {b : Nat} {l : List (κ × Value)} (h : KMap enc w b l) (K : KeyRun P kt enc) {t e : TypeId} (ht : P.underlying t = some (.map kt e)) {z : Value} (hz : (zeroValue e).run P w = .ok z w) (x : κ) (ok : Bool) :
    (Instr.lookup t (.map (some b)) (enc x) ok).run P w = .ok (if ok then .tuple #[(kget l x).getD z, .bool (kget l x).isSome] else (kget l x).getD z) w := by
  obtain ⟨es, clock, hb, hs, he, hn⟩ := h
  have hk := entries_keyed he
  unfold Instr.lookup
  simp only [Sem.run_bind, run_underlying ht, MapKept.run_getObj_map hb, Result.andThen, K.check, Sem.run_pure]
  rcases K.find w x es.toList (fun e he' => by obtain ⟨p, _, h1, _⟩ := hk e he'; exact ⟨p.1, h1⟩) with ⟨h1, h2⟩ | ⟨j, e0, h1, h2, h3⟩
  · have hg : kget l x = none := kget_none fun p hp e1 => by
      have : (enc p.1, p.2) ∈ l.map (fun p => (enc p.1, p.2)) := List.mem_map.2 ⟨p, hp, rfl⟩
      rw [← he] at this
      obtain ⟨q, hq, e2⟩ := List.mem_map.1 this
      simp only [Prod.mk.injEq] at e2
      exact h2 q hq (by rw [e2.1, e1])
    simp only [h1, Sem.run_bind, Sem.run_pure, Result.andThen, hz, hg, Option.getD_none, Option.isSome_none]
  · have hm : e0 ∈ es.toList := List.mem_of_getElem? h2
    obtain ⟨p, hp, e1, e2⟩ := hk e0 hm
    have e3 : p.1 = x := K.inj (e1.symm.trans h3)
    have hg : kget l x = some e0.val := kget_mem hn (by rw [e2, ← e3]; exact hp)
    simp only [h1, Sem.run_bind, Sem.run_pure, Result.andThen, hg, Option.getD_some, Option.isSome_some]

theorem map_modify_eq {es : List MapEntry} {l : List (κ × Value)} (K : KeyRun P kt enc) (hn : (l.map (·.1)).Nodup) (h : es.map (fun e => (e.key, e.val)) = l.map (fun p => (enc p.1, p.2))) {j : Nat} {e0 : MapEntry} (hj : es[j]? = some e0) {x : κ} (hx : e0.key = enc x) (v : Value) :
    (es.modify j fun e => { e with key := enc x, val := v }).map (fun e => (e.key, e.val)) = (kput l x v).map (fun p => (enc p.1, p.2)) := by
  have hlen : es.length = l.length := by simpa using congrArg List.length h
  have hjl : j < es.length := (List.getElem?_eq_some_iff.1 hj).1
  have hat : ∀ i : Nat, es[i]?.map (fun e => (e.key, e.val)) = l[i]?.map (fun p => (enc p.1, p.2)) := fun i => by
    have := congrArg (fun q : List (Value × Value) => q[i]?) h
    simpa using this
  have hpj := hat j
  rw [hj] at hpj
  cases hlj : l[j]? with
  | none => rw [hlj] at hpj; simp at hpj
  | some p =>
    rw [hlj] at hpj
    simp only [Option.map_some, Option.some.injEq, Prod.mk.injEq] at hpj
    have hpx : p.1 = x := K.inj (hpj.1.symm.trans hx)
    have hany : l.any (fun p => decide (p.1 = x)) = true := List.any_eq_true.2 ⟨p, List.mem_of_getElem? hlj, by simpa using hpx⟩
    unfold kput
    rw [if_pos hany]
    apply List.ext_getElem?
    intro i
    simp only [List.getElem?_map, List.getElem?_modify]
    by_cases hij : j = i
    · subst hij
      simp [hj, hlj, hpx]
    · have hi := hat i
      cases hei : es[i]? with
      | none => rw [hei] at hi; cases hli : l[i]? with
        | none => simp
        | some q => rw [hli] at hi; simp at hi
      | some e =>
        rw [hei] at hi
        cases hli : l[i]? with
        | none => rw [hli] at hi; simp at hi
        | some q =>
          rw [hli] at hi
          simp only [Option.map_some, Option.some.injEq, Prod.mk.injEq] at hi
          have hne : q.1 ≠ x := by
            intro e1
            have h1 : (l.map (·.1))[j]? = some x := by simp [hlj, hpx]
            have h2 : (l.map (·.1))[i]? = some x := by simp [hli, e1]
            have h3 := (List.getElem?_inj (i := j) (j := i) (by simpa [hlen] using hjl) hn).1 (by rw [h1, h2])
            exact hij h3
          simp [hij, hne, hi]

/-- 'm[k] = v' -/
theorem KMap.update {w : World} {b : Nat} {l : List (κ × Value)} (h : KMap enc w b l) (K : KeyRun P kt enc) {t e : TypeId} (ht : P.underlying t = some (.map kt e)) (x : κ) (v : Value) :
    ∃ o, (Instr.mapUpdate t (.map (some b)) (enc x) v).run P w = .ok () (setBlock w b o) ∧ KMap enc (setBlock w b o) b (kput l x v) := by
  obtain ⟨es, clock, hb, hs, he, hn⟩ := h
  have hk := entries_keyed he
  have hlt : b < w.heap.size := (Array.getElem?_eq_some_iff.1 hb).1
  unfold Instr.mapUpdate
  simp only [Sem.run_bind, run_underlying ht, MapKept.run_getObj_map hb, Result.andThen, K.check]
  rcases K.find w x es.toList (fun e he' => by obtain ⟨p, _, h1, _⟩ := hk e he'; exact ⟨p.1, h1⟩) with ⟨h1, h2⟩ | ⟨j, e0, h1, h2, h3⟩
  · simp only [h1, MapKept.run_setObj_map _ hb]
    refine ⟨.map (es.push { key := enc x, val := v, born := clock }) (clock + 1), rfl, ⟨es.push { key := enc x, val := v, born := clock }, clock + 1, by simp [setBlock, hlt], stamped_push hs h2, ?_, kput_nodup hn x v⟩⟩
    have hfresh : ∀ p ∈ l, p.1 ≠ x := fun p hp e1 => by
      have : (enc p.1, p.2) ∈ l.map (fun p => (enc p.1, p.2)) := List.mem_map.2 ⟨p, hp, rfl⟩
      rw [← he] at this
      obtain ⟨q, hq, e2⟩ := List.mem_map.1 this
      simp only [Prod.mk.injEq] at e2
      exact h2 q hq (by rw [e2.1, e1])
    rw [kput_fresh v hfresh]
    simp [he]
  · have hj : es[j]? = some e0 := by simpa using h2
    simp only [h1, hj, Option.map_some, Option.getD_some, h3, Sem.run_bind, Result.andThen, K.stays, MapKept.run_setObj_map _ hb]
    refine ⟨.map (es.modify j fun e => { e with key := enc x, val := v }) clock, rfl, ⟨es.modify j fun e => { e with key := enc x, val := v }, clock, by simp [setBlock, hlt], ?_, ?_, kput_nodup hn x v⟩⟩
    · exact stamped_modify hs _ _ (fun _ _ => rfl) (fun e' _ he' => by rw [hj] at he'; cases he'; exact h3.symm)
    · rw [Array.toList_modify]
      exact map_modify_eq K hn he h2 h3 v

omit [DecidableEq κ] in
theorem kmap_lookup_nil (K : KeyRun P kt enc) (w : World) {t e : TypeId} (ht : P.underlying t = some (.map kt e)) {z : Value} (hz : (zeroValue e).run P w = .ok z w) (x : κ) (ok : Bool) :
    (Instr.lookup t (.map none) (enc x) ok).run P w = .ok (if ok then .tuple #[z, .bool false] else z) w := by
  unfold Instr.lookup
  have h1 := K.find w x [] (by simp)
  rcases h1 with ⟨h1, _⟩ | ⟨j, e0, _, h2, _⟩
  · simp only [Sem.run_bind, run_underlying ht, Result.andThen, K.check, Sem.run_pure, h1, hz]
  · simp at h2

omit [DecidableEq κ] in
theorem run_len_kmap {w : World} {b : Nat} {l : List (κ × Value)} (h : KMap enc w b l) : ∃ es clock, w.heap[b]? = some (.map es clock) ∧ es.size = l.length := by
  obtain ⟨es, clock, hb, hs, he, hn⟩ := h
  exact ⟨es, clock, hb, by simpa using congrArg List.length he⟩
end

theorem cell_ne_map {κ : Type} {enc : κ → Value} {w : World} {b o m : Nat} {v : Value} {l : List (κ × Value)} (h : w.cell? ⟨b, o, none⟩ = some v) (hm : KMap enc w m l) : b ≠ m := by
  intro e
  subst e
  obtain ⟨es, clock, hb, _⟩ := hm
  simp [World.cell?, hb] at h
theorem perm_keys {κ α : Type} {left left' : List (κ × α)} {p : κ × α} (hp : left.Perm (p :: left')) (hn : (left.map (·.1)).Nodup) :
    (∀ y, y ∈ left.map (·.1) ↔ (y = p.1 ∨ y ∈ left'.map (·.1))) ∧ p.1 ∉ left'.map (·.1) ∧ left.length = left'.length + 1 := by
  refine ⟨fun y => ?_, ?_, by rw [hp.length_eq]; rfl⟩
  · rw [(hp.map (·.1)).mem_iff]; simp
  · exact (List.nodup_cons.1 ((hp.map (·.1)).nodup_iff.1 hn)).1
/-! ### ranging -/
section
variable {κ : Type} {P : Program} {kt : TypeId} {enc : κ → Value}
/-- A map that may be nil. -/
def KMapO (enc : κ → Value) (w : World) : Option Nat → List (κ × Value) → Prop
  | none, l => l = []
  | some b, l => KMap enc w b l
theorem KMapO.keep {w w' : World} {m : Option Nat} {l : List (κ × Value)} {M : Nat → Prop} (h : KMapO enc w m l) (k : Keep M w w') (hM : ∀ b, m = some b → ¬ M b) : KMapO enc w' m l := by
  cases m with
  | none => exact h
  | some b => exact KMap.keep (M := M) h k (hM b rfl)
theorem KMapO.nodup {w : World} {m : Option Nat} {l : List (κ × Value)} (h : KMapO enc w m l) : (l.map (·.1)).Nodup := by
  cases m with
  | none => subst h; simp
  | some b => exact KMap.nodup h
theorem KMapO.lookup [DecidableEq κ] {w : World} {m : Option Nat} {l : List (κ × Value)} (h : KMapO enc w m l) (K : KeyRun P kt enc) {t e : TypeId} (ht : P.underlying t = some (.map kt e)) {z : Value} (hz : (zeroValue e).run P w = .ok z w) (x : κ) (ok : Bool) :
    (Instr.lookup t (.map m) (enc x) ok).run P w = .ok (if ok then .tuple #[(kget l x).getD z, .bool (kget l x).isSome] else (kget l x).getD z) w := by
  cases m with
  | none => subst h; exact kmap_lookup_nil K w ht hz x ok
  | some b => exact KMap.lookup h K ht hz x ok

/-- The iterator r of a loop over the map m that holds l: left is what is still to come. -/
def KIter (enc : κ → Value) (w : World) (m : Option Nat) (r : Nat) (l left : List (κ × Value)) : Prop :=
  match m with
  | none => l = [] ∧ left = [] ∧ w.heap[r]? = some (.mapIter none 0 #[] 0)
  | some b => ∃ es clock since seen c0, w.heap[b]? = some (.map es clock) ∧ Stamped es clock ∧ es.toList.map (fun e => (e.key, e.val)) = l.map (fun p => (enc p.1, p.2)) ∧ (l.map (·.1)).Nodup ∧
      w.heap[r]? = some (.mapIter (some b) since seen c0) ∧ (∀ x ∈ es.toList, x.born < since) ∧ since ≤ c0 ∧ since ≤ clock ∧ (leftOf es seen).toList.map (fun e => (e.key, e.val)) = left.map (fun p => (enc p.1, p.2)) ∧ left.Sublist l
theorem KIter.keep {w w' : World} {m : Option Nat} {r : Nat} {l left : List (κ × Value)} {M : Nat → Prop} (h : KIter enc w m r l left) (k : Keep M w w') (hM : ∀ b, m = some b → ¬ M b) (hr : ¬ M r) : KIter enc w' m r l left := by
  cases m with
  | none => exact ⟨h.1, h.2.1, k.heap h.2.2 hr⟩
  | some b =>
    obtain ⟨es, clock, since, seen, c0, hb, hs, he, hn, hi, rest⟩ := h
    exact ⟨es, clock, since, seen, c0, k.heap hb (hM b rfl), hs, he, hn, k.heap hi hr, rest⟩
theorem KIter.map {w : World} {m : Option Nat} {r : Nat} {l left : List (κ × Value)} (h : KIter enc w m r l left) : KMapO enc w m l := by
  cases m with
  | none => exact h.1
  | some b => obtain ⟨es, clock, since, seen, c0, hb, hs, he, hn, _⟩ := h; exact ⟨es, clock, hb, hs, he, hn⟩
theorem KIter.sub {w : World} {m : Option Nat} {r : Nat} {l left : List (κ × Value)} (h : KIter enc w m r l left) : left.Sublist l := by
  cases m with
  | none => obtain ⟨rfl, rfl, _⟩ := h; exact List.Sublist.refl _
  | some b => obtain ⟨es, clock, since, seen, c0, hb, hs, he, hn, _, _, _, _, _, hsub⟩ := h; exact hsub
theorem KMapO.range {w : World} {m : Option Nat} {l : List (κ × Value)} (h : KMapO enc w m l) {t k e : TypeId} (ht : P.underlying t = some (.map k e)) :
    ∃ o, (Instr.range t (.map m)).run P w = .ok (.pointer (some ⟨w.heap.size, 0, none⟩)) (w.alloc o) ∧ KIter enc (w.alloc o) m w.heap.size l l := by
  cases m with
  | none => exact ⟨.mapIter none 0 #[] 0, run_range_nilMap w t k e ht, h, h, (MapKept.heap_alloc w _).1⟩
  | some b =>
    have hlt := KMap.lt h
    obtain ⟨es, clock, hb, hs, he, hn⟩ := h
    refine ⟨.mapIter (some b) clock #[] clock, run_range_map w t k e b es clock ht hb, es, clock, clock, #[], clock, ((MapKept.heap_alloc w _).2 b hlt).trans hb, hs, he, hn, (MapKept.heap_alloc w _).1, hs.1, Nat.le_refl _, Nat.le_refl _, ?_, List.Sublist.refl _⟩
    rw [← he]
    congr 1
    unfold leftOf
    rw [Array.toList_filter]
    exact List.filter_eq_self.2 (fun x _ => by simp)

theorem left_after {es : List MapEntry} {l : List (κ × Value)} {e : MapEntry} (hinj : ∀ {a b : κ}, enc a = enc b → a = b) : ∀ (L : List MapEntry) (left : List (κ × Value)), L.map (fun e => (e.key, e.val)) = left.map (fun p => (enc p.1, p.2)) → (left.map (·.1)).Nodup → (L.map (·.born)).Nodup → e ∈ L →
    ∃ p ∈ left, e.key = enc p.1 ∧ e.val = p.2 ∧ ∃ left', (L.filter (fun x => !(x.born == e.born))).map (fun e => (e.key, e.val)) = left'.map (fun p => (enc p.1, p.2)) ∧ left'.Sublist left ∧ left.Perm (p :: left')
  | [], _, _, _, _, h => by cases h
  | x :: L, left, h, hn, hb, hm => by
    cases left with
    | nil => simp at h
    | cons q left =>
      simp only [List.map_cons, List.cons.injEq, Prod.mk.injEq] at h
      obtain ⟨⟨h1, h2⟩, h3⟩ := h
      simp only [List.map_cons, List.nodup_cons] at hn hb
      by_cases hx : x.born = e.born
      · have hL : ∀ y ∈ L, y.born ≠ e.born := fun y hy ey => hb.1 (by rw [hx, ← ey]; exact List.mem_map.2 ⟨y, hy, rfl⟩)
        have hxe : x = e := by
          rcases List.mem_cons.1 hm with h' | h'
          · exact h'.symm
          · exact (hL e h' rfl).elim
        subst hxe
        refine ⟨q, .head _, h1, h2, left, ?_, List.sublist_cons_self _ _, List.Perm.refl _⟩
        have : L.filter (fun y => !(y.born == x.born)) = L := List.filter_eq_self.2 fun y hy => by simpa using hL y hy
        simp [List.filter_cons, this, h3]
      · have hm' : e ∈ L := by
          rcases List.mem_cons.1 hm with h' | h'
          · exact (hx (by rw [h'])).elim
          · exact h'
        obtain ⟨p, hp, e1, e2, left', e3, e4, e5⟩ := left_after (es := es) (l := l) hinj L left h3 hn.2 hb.2 hm'
        refine ⟨p, .tail _ hp, e1, e2, q :: left', ?_, e4.cons_cons q, ?_⟩
        · simp [List.filter_cons, hx, e3, h1, h2]
        · exact (e5.cons q).trans (List.Perm.swap _ _ _)

/-- One step of the loop. -/
theorem KIter.next {w : World} {m : Option Nat} {r : Nat} {l left : List (κ × Value)} (h : KIter enc w m r l left) (hinj : ∀ {a b : κ}, enc a = enc b → a = b) (ty : TypeId) :
    (left = [] ∧ (Instr.next (.pointer (some ⟨r, 0, none⟩)) false ty).run P w = .ok (.tuple #[.bool false]) w) ∨
    ∃ p left' w', left.Perm (p :: left') ∧ (Instr.next (.pointer (some ⟨r, 0, none⟩)) false ty).run P w = .ok (.tuple #[.bool true, enc p.1, p.2]) w' ∧ (Instr.entry (.pointer (some ⟨r, 0, none⟩))).run P w' = .ok (.tuple #[enc p.1, p.2]) w' ∧
      KIter enc w' m r l left' ∧ Keep (· = r) w w' ∧ w'.heap.size = w.heap.size := by
  cases m with
  | none =>
    obtain ⟨rfl, rfl, hr⟩ := h
    refine .inl ⟨rfl, ?_⟩
    simp [Instr.next, getObj, Sem.run, hr, Result.andThen]
  | some b =>
    obtain ⟨es, clock, since, seen, c0, hb, hs, he, hn, hi, hold, hsc, hcl, hl, hsub⟩ := h
    have hst := (stamped_iff es clock).1 hs
    rcases run_next_at (P := P) w ty r b since c0 seen es clock hi hb hold hsc with ⟨h0, hrun⟩ | ⟨e, hm, w1, hal, hrun⟩
    · left
      refine ⟨?_, hrun⟩
      have : left.length = 0 := by have := congrArg List.length hl; simp at this; omega
      exact List.eq_nil_of_length_eq_zero this
    · right
      obtain ⟨hmes, hseen⟩ := mem_left hm
      have hnl : (left.map (·.1)).Nodup := (hsub.map _).nodup hn
      have hnb : ((leftOf es seen).toList.map (·.born)).Nodup := by
        refine List.Sublist.nodup ?_ hs.2.1
        unfold leftOf
        rw [Array.toList_filter]
        exact List.filter_sublist.map _
      obtain ⟨p, hp, e1, e2, left', e3, e4, e5⟩ := left_after (es := es.toList) (l := l) hinj _ left hl hnl hnb hm
      have hne : r ≠ b := by intro e0; rw [e0, hb] at hi; cases hi
      have hrl : r < w.heap.size := (Array.getElem?_eq_some_iff.1 hi).1
      have hw1 : w1.heap = w.heap := by rcases hal with rfl | rfl <;> rfl
      have hb' : (setBlock w1 r (.mapIter (some b) since (seen.push e.born) clock)).heap[b]? = some (.map es clock) := by simp [setBlock, hw1, hne, hb]
      have hi' : (setBlock w1 r (.mapIter (some b) since (seen.push e.born) clock)).heap[r]? = some (.mapIter (some b) since (seen.push e.born) clock) := by simp [setBlock, hw1, hrl]
      refine ⟨p, left', _, e5, by rw [← e1, ← e2]; exact hrun, by rw [← e1, ← e2]; exact run_entry_at _ r b since seen es clock e hi' hb' hmes hs.2.1, ⟨es, clock, since, seen.push e.born, clock, hb', hs, he, hn, hi', hold, hcl, hcl, ?_, e4.trans hsub⟩, ?_, by simp [setBlock, hw1]⟩
      · rw [← e3]
        unfold leftOf
        simp only [Array.toList_filter, List.filter_filter, contains_push]
        congr 1
        apply List.filter_congr
        intro x _
        cases seen.contains x.born <;> cases (x.born == e.born) <;> rfl
      · have k1 : Keep (· = r) w w1 := by
          rcases hal with rfl | rfl
          · exact Keep.refl _ _
          · exact Keep.drew _ _
        exact k1.trans (Keep.setBlock (M := (· = r)) w1 r _ (fun _ => rfl)) (fun _ _ h => h) (fun _ _ h => h)
end

theorem KMapO.len {κ : Type} {enc : κ → Value} {P : Program} {w : World} {m : Option Nat} {l : List (κ × Value)} (h : KMapO enc w m l) {t k e : TypeId} (ht : P.underlying t = some (.map k e)) (ty : TypeId) :
    (Builtin.len_ #[t] ty #[.map m]).run P w = .ok (.int .i64 l.length) w := by
  cases m with
  | none => subst h; simp [Builtin.len_, run_underlying ht, Result.andThen, goInt]
  | some b =>
    obtain ⟨es, clock, hb, hs⟩ := run_len_kmap h
    simp [Builtin.len_, run_underlying ht, Result.andThen, MapKept.run_getObj_map hb, goInt, hs]
theorem run_makeMap_hint {P : Program} {t k e : TypeId} (ht : P.underlying t = some (.map k e)) (n : Int) (w : World) :
    (Instr.makeMap t (some (.int .i64 n))).run P w = .ok (.map (some w.heap.size)) (w.alloc (.map #[] 0)) := by
  simp [Instr.makeMap, run_underlying ht, asInt, asIntOf, Result.andThen]
end Go.Proofs.YtjclpmgfcaadmaaGreatDoor
