/- How the data of a schema lie in memory; no walk of the program. -/
import Derived.Test.YthhjehajdcgkhaaGreatDoorRows
import Derived.Test.YthhjehajdcgkhaaGreatDoorSpec
import Derived.WalkKit
namespace Go.Proofs.YthhjehajdcgkhaaGreatDoor
open Go.RowKit

theorem NoB.not (b : Nat) : ¬ NoB b := fun h => h

/-- Cells one behind the other. -/
def CellsAt (w : World) (b off : Nat) (cs : List Value) : Prop := ∀ j v, cs[j]? = some v → w.cell? ⟨b, off + j, none⟩ = some v
theorem CellsAt.keep {w w' : World} {M : Nat → Prop} {b off : Nat} {cs : List Value} (h : CellsAt w b off cs) (k : Keep M w w') (hM : ¬ M b) : CellsAt w' b off cs :=
  fun j v hj => k.cell (h j v hj) hM

/-- A slice value of n elements of k cells each; element i's cells are f i. -/
def SliceAt (w : World) (M : Nat → Prop) (k n : Nat) (v : Value) (f : Nat → List Value) : Prop :=
  ∃ ov c, v = .slice ov n c ∧ (n = 0 ∨ ∃ b off, ov = some ⟨b, off, none⟩ ∧ ¬ M b ∧ ∀ i, i < n → (f i).length = k ∧ CellsAt w b (off + i * k) (f i))
theorem SliceAt.keep {w w' : World} {M M' M2 : Nat → Prop} {k n : Nat} {v : Value} {f : Nat → List Value} (h : SliceAt w M k n v f) (hk : Keep M2 w w') (h2 : ∀ i, i < w.heap.size → M2 i → M i) (h3 : ∀ i, i < w.heap.size → M' i → M i) (hpos : n = 0 ∨ 0 < k) : SliceAt w' M' k n v f := by
  obtain ⟨ov, c, hv, h⟩ := h
  refine ⟨ov, c, hv, ?_⟩
  rcases h with h | ⟨b, off, e, hM, hc⟩
  · exact .inl h
  · rcases Nat.eq_zero_or_pos n with h0 | h0
    · exact .inl h0
    · have hk0 : 0 < k := by omega
      have hb : b < w.heap.size := by
        obtain ⟨h4, h5⟩ := hc 0 h0
        have h6 : (f 0)[0]? = some (f 0)[0] := List.getElem?_eq_getElem (by omega)
        exact block_lt_of_cell (h5 0 _ h6)
      exact .inr ⟨b, off, e, fun h => hM (h3 b hb h), fun i hi => ⟨(hc i hi).1, (hc i hi).2.keep hk (fun h => hM (h2 b hb h))⟩⟩

/-- A map's values are those of a list by key, in whatever order. -/
structure MapRel {κ α : Type} (R : α → Value → Prop) (l : List (κ × α)) (lv : List (κ × Value)) : Prop where
  nodup : (l.map (·.1)).Nodup
  len : lv.length = l.length
  rel : ∀ k x, (k, x) ∈ l → ∃ v, (k, v) ∈ lv ∧ R x v

theorem MapRel.mono {κ α : Type} {R R' : α → Value → Prop} {l : List (κ × α)} {lv : List (κ × Value)} (h : MapRel R l lv) (hR : ∀ k x v, (k, x) ∈ l → R x v → R' x v) : MapRel R' l lv :=
  ⟨h.nodup, h.len, fun k x hx => let ⟨v, h1, h2⟩ := h.rel k x hx; ⟨v, h1, hR k x v hx h2⟩⟩

/-- A type of the syntax tree, as a value. -/
inductive ATyIs (w : World) (M : Nat → Prop) : ATy → Value → Prop
  | str : ATyIs w M .str (.iface 242 (.agg #[]))
  | long : ATyIs w M .long (.iface 244 (.agg #[]))
  | bool : ATyIs w M .bool (.iface 246 (.agg #[]))
  | ext (s : Str) : s.size ≤ 1000000 → ATyIs w M (.ext s) (.iface 247 (.string s))
  | set {t : ATy} {v : Value} : ATyIs w M t v → ATyIs w M (.set t) (.iface 249 (.agg #[v]))
  | record {l : List (Str × ATy × Bool)} {lv : List (Str × Value)} {b : Nat} {f : Str → Value} {an : Str → Option Nat} : KMap Value.string w b lv → ¬ M b → (l.map (·.1)).Nodup → lv.length = l.length →
      (∀ k t o, (k, t, o) ∈ l → (k, .agg #[f k, .bool o, .map (an k)]) ∈ lv) → (∀ k t o, (k, t, o) ∈ l → ATyIs w M t (f k)) → ATyIs w M (.record l) (.iface 188 (.map (some b)))
  | ent (s : Str) : s.size ≤ 1000000 → ATyIs w M (.ent s) (.iface 235 (.string s))
  | ref (s : Str) : s.size ≤ 1000000 → ATyIs w M (.ref s) (.iface 251 (.string s))

/-- A resolved type, as a value. -/
inductive RTyIs (w : World) (M : Nat → Prop) : RTy → Value → Prop
  | str : RTyIs w M .str (.iface 164 (.agg #[]))
  | long : RTyIs w M .long (.iface 165 (.agg #[]))
  | bool : RTyIs w M .bool (.iface 166 (.agg #[]))
  | ext (s : Str) : s.size ≤ 3000000 → RTyIs w M (.ext s) (.iface 167 (.string s))
  | set {t : RTy} {v : Value} : RTyIs w M t v → RTyIs w M (.set t) (.iface 169 (.agg #[v]))
  | record {l : List (Str × RTy × Bool)} {lv : List (Str × Value)} {b : Nat} {f : Str → Value} {an : Str → Option Nat} : KMap Value.string w b lv → ¬ M b → (l.map (·.1)).Nodup → lv.length = l.length →
      (∀ k t o, (k, t, o) ∈ l → (k, .agg #[f k, .bool o, .map (an k)]) ∈ lv) → (∀ k t o, (k, t, o) ∈ l → RTyIs w M t (f k)) → RTyIs w M (.record l) (.iface 86 (.map (some b)))
  | ent (s : Str) : s.size ≤ 3000000 → RTyIs w M (.ent s) (.iface 170 (.string s))

theorem ATyIs.iface {w : World} {M : Nat → Prop} {t : ATy} {v : Value} (h : ATyIs w M t v) : ∃ T x, v = .iface T x := by
  cases h <;> exact ⟨_, _, rfl⟩
theorem RTyIs.iface {w : World} {M : Nat → Prop} {t : RTy} {v : Value} (h : RTyIs w M t v) : ∃ T x, v = .iface T x := by
  cases h <;> exact ⟨_, _, rfl⟩
theorem RTyIs.mkRecord {w : World} {M : Nat → Prop} {l : List (Str × RTy × Bool)} {lv : List (Str × Value)} {b : Nat} (hm : KMap Value.string w b lv) (hM : ¬ M b) (hn : (l.map (·.1)).Nodup) (hl : lv.length = l.length)
    (h : ∀ k t o, (k, t, o) ∈ l → ∃ v an, (k, .agg #[v, .bool o, .map an]) ∈ lv ∧ RTyIs w M t v) : RTyIs w M (.record l) (.iface 86 (.map (some b))) := by
  have h' : ∀ k, ∃ v an, ∀ t o, (k, t, o) ∈ l → (k, .agg #[v, .bool o, .map an]) ∈ lv ∧ RTyIs w M t v := by
    intro k
    by_cases hk : ∃ t o, (k, t, o) ∈ l
    · obtain ⟨t, o, hk⟩ := hk
      obtain ⟨v, an, h1, h2⟩ := h k t o hk
      refine ⟨v, an, fun t' o' hk' => ?_⟩
      have := key_unique hn hk hk'
      simp only [Prod.mk.injEq] at this
      rw [← this.1, ← this.2]; exact ⟨h1, h2⟩
    · exact ⟨.nilIface, none, fun t o hk' => (hk ⟨t, o, hk'⟩).elim⟩
  exact .record (f := fun k => (h' k).choose) (an := fun k => (h' k).choose_spec.choose) hm hM hn hl (fun k t o hk => ((h' k).choose_spec.choose_spec t o hk).1) (fun k t o hk => ((h' k).choose_spec.choose_spec t o hk).2)

theorem ATyIs.keep {w w' : World} {M M' M2 : Nat → Prop} (hk : Keep M2 w w') (h2 : ∀ i, i < w.heap.size → M2 i → M i) (h3 : ∀ i, i < w.heap.size → M' i → M i) {t : ATy} {v : Value} (h : ATyIs w M t v) : ATyIs w' M' t v := by
  induction h with
  | str => exact .str
  | long => exact .long
  | bool => exact .bool
  | ext s hs => exact .ext s hs
  | set _ ih => exact .set ih
  | record hm hM hn hl ha _ ih => exact .record (hm.keep hk (fun h => hM (h2 _ hm.lt h))) (fun h => hM (h3 _ hm.lt h)) hn hl ha ih
  | ent s hs => exact .ent s hs
  | ref s hs => exact .ref s hs
theorem RTyIs.keep {w w' : World} {M M' M2 : Nat → Prop} (hk : Keep M2 w w') (h2 : ∀ i, i < w.heap.size → M2 i → M i) (h3 : ∀ i, i < w.heap.size → M' i → M i) {t : RTy} {v : Value} (h : RTyIs w M t v) : RTyIs w' M' t v := by
  induction h with
  | str => exact .str
  | long => exact .long
  | bool => exact .bool
  | ext s hs => exact .ext s hs
  | set _ ih => exact .set ih
  | record hm hM hn hl ha _ ih => exact .record (hm.keep hk (fun h => hM (h2 _ hm.lt h))) (fun h => hM (h3 _ hm.lt h)) hn hl ha ih
  | ent s hs => exact .ent s hs

theorem zeroBool (w : World) : (zeroValue 4).run Tryz.prog w = .ok (.bool false) w := by kernel_rfl
/-- a set of names, kept as a map to bools -/
def BSet (w : World) (b : Nat) (l : List Str) : Prop := KMap Value.string w b (l.map fun x => (x, Value.bool true))
theorem kget_set (l : List Str) (x : Str) : (kget (l.map fun x => (x, Value.bool true)) x).getD (.bool false) = .bool (decide (x ∈ l)) := by
  induction l with
  | nil => rfl
  | cons y l ih =>
    unfold kget at *
    by_cases h : y = x
    · subst h; simp
    · have h' : ¬ x = y := fun e => h e.symm
      simp only [List.map_cons, List.find?_cons, h, decide_false, ih, List.mem_cons, h', false_or]
theorem BSet.keep {w w' : World} {M : Nat → Prop} {b : Nat} {l : List Str} (h : BSet w b l) (k : Keep M w w') (hM : ¬ M b) : BSet w' b l := KMap.keep h k hM
theorem BSet.lookup {w : World} {b : Nat} {l : List Str} (h : BSet w b l) (x : Str) :
    (Instr.lookup 211 (.map (some b)) (.string x) false).run Tryz.prog w = .ok (.bool (decide (x ∈ l))) w := by
  have := KMap.lookup h (strKey Tryz.underlying78) Tryz.underlying211 (zeroBool w) x false
  rw [this]
  simp only [Bool.false_eq_true, if_false, kget_set]

/-- The blocks that the state's types do not lie in. -/
def RSD (M : Nat → Prop) (mE mN mC : Nat) : Nat → Prop := fun i => M i ∨ i = mE ∨ i = mN ∨ i = mC
/-- The state of the resolver: three maps behind a pointer. -/
structure RS (w : World) (M : Nat → Prop) (b mE mN mC : Nat) (V : Env) : Prop where
  c0 : w.cell? ⟨b, 0, none⟩ = some (.map (some mE))
  c1 : w.cell? ⟨b, 1, none⟩ = some (.map (some mN))
  c2 : w.cell? ⟨b, 2, none⟩ = some (.map (some mC))
  nb : ¬ M b
  nE : ¬ M mE
  nN : ¬ M mN
  nC : ¬ M mC
  apart : mE ≠ mN ∧ mE ≠ mC ∧ mN ≠ mC
  ents : BSet w mE V.E
  enums : BSet w mN V.N
  commons : ∃ lv, KMap Value.string w mC lv ∧ MapRel (ATyIs w (RSD M mE mN mC)) V.C lv

theorem RS.commons' {w : World} {M : Nat → Prop} {b mE mN mC : Nat} {V : Env} (h : RS w M b mE mN mC V) : ∃ lv, KMap Value.string w mC lv ∧ MapRel (ATyIs w M) V.C lv := by
  obtain ⟨lv, hC, hR⟩ := h.commons
  exact ⟨lv, hC, hR.mono fun _ _ _ _ q => q.keep (Keep.refl NoB w) (fun _ _ h => h.elim) (fun _ _ h => .inl h)⟩
theorem RS.keep {w w' : World} {M M' M2 : Nat → Prop} {b mE mN mC : Nat} {V : Env} (h : RS w M b mE mN mC V) (hk : Keep M2 w w') (h2 : ∀ i, i < w.heap.size → M2 i → M i) (h3 : ∀ i, i < w.heap.size → M' i → M i) : RS w' M' b mE mN mC V := by
  have lb : b < w.heap.size := block_lt_of_cell h.c0
  have lE := h.ents.lt
  have lN := h.enums.lt
  obtain ⟨lv, hC, hR⟩ := h.commons
  have lC := hC.lt
  exact ⟨hk.cell h.c0 (fun q => h.nb (h2 _ lb q)), hk.cell h.c1 (fun q => h.nb (h2 _ lb q)), hk.cell h.c2 (fun q => h.nb (h2 _ lb q)),
    fun q => h.nb (h3 _ lb q), fun q => h.nE (h3 _ lE q), fun q => h.nN (h3 _ lN q), fun q => h.nC (h3 _ lC q), h.apart,
    h.ents.keep hk (fun q => h.nE (h2 _ lE q)), h.enums.keep hk (fun q => h.nN (h2 _ lN q)),
    lv, hC.keep hk (fun q => h.nC (h2 _ lC q)), hR.mono fun _ _ _ _ q => q.keep hk (fun i hi h => .inl (h2 i hi h)) (fun i hi h => h.elim (fun h => .inl (h3 i hi h)) .inr)⟩

/-- An error or none, behind a value: what a function with two results returns. -/
def ErrOr (v : Option Value) (z : Value) (e : Ending) : Prop :=
  match v with
  | some x => e = .returned (.tuple #[x, .nilIface])
  | none => ∃ a, e = .returned (.tuple #[z, .iface 301 (.pointer (some a))])
/-- An error or none alone. -/
def Err1 (ok : Bool) (e : Ending) : Prop :=
  if ok then e = .returned .nilIface else ∃ a, e = .returned (.iface 301 (.pointer (some a)))
end Go.Proofs.YthhjehajdcgkhaaGreatDoor
