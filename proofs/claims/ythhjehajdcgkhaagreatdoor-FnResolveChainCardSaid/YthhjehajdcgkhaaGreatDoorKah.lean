/- Kahn's algorithm on lists of names; no program in sight. -/
import Derived.Test.YthhjehajdcgkhaaGreatDoorSpec
namespace Go.Proofs.YthhjehajdcgkhaaGreatDoor

section
variable (C : List Str) (dp : Str → List Str)

/-- how often x stands in the lists of the names of l -/
def indeg (l : List Str) (x : Str) : Nat := (l.map fun a => (dp a).count x).sum
/-- the names that are still to be visited -/
def rest (P : List Str) : List Str := C.filter fun a => decide (a ∉ P)
variable {C dp}
theorem indeg_zero {l : List Str} {x : Str} : indeg dp l x = 0 ↔ ∀ a ∈ l, x ∉ dp a := by
  unfold indeg
  induction l with
  | nil => simp
  | cons b l ih =>
    simp only [List.map_cons, List.sum_cons, Nat.add_eq_zero_iff, ih, List.mem_cons, forall_eq_or_imp, List.count_eq_zero]
theorem indeg_perm {l l' : List Str} (h : l.Perm l') (x : Str) : indeg dp l x = indeg dp l' x := (h.map _).sum_nat
theorem mem_rest {P : List Str} {x : Str} : x ∈ rest C P ↔ x ∈ C ∧ x ∉ P := by
  unfold rest; rw [List.mem_filter, decide_eq_true_eq]
theorem rest_snoc (hn : C.Nodup) {P : List Str} {a : Str} (ha : a ∈ C) (hp : a ∉ P) : (rest C P).Perm (a :: rest C (P ++ [a])) := by
  refine (List.perm_ext_iff_of_nodup (hn.filter _) (List.nodup_cons.2 ⟨fun h => (mem_rest.1 h).2 (by simp), hn.filter _⟩)).2 fun x => ?_
  show x ∈ rest C P ↔ _
  rw [mem_rest, List.mem_cons, mem_rest]
  constructor
  · rintro ⟨h1, h2⟩
    by_cases e : x = a
    · exact .inl e
    · exact .inr ⟨h1, fun h => by
        rcases List.mem_append.1 h with h | h
        · exact h2 h
        · exact e (List.mem_singleton.1 h)⟩
  · rintro (rfl | ⟨h1, h2⟩)
    · exact ⟨ha, hp⟩
    · exact ⟨h1, fun h => h2 (List.mem_append.2 (.inl h))⟩

variable (C dp)
/-- The state: the degrees D, the queue Q, the names that have been visited P, in their order; of the last of these what is left of its list. -/
structure KSt (D : Str → Int) (Q P left : List Str) : Prop where
  nod : (P ++ Q).Nodup
  sub : ∀ x ∈ P ++ Q, x ∈ C
  deg : ∀ x ∈ C, D x = ((indeg dp (rest C P) x + left.count x : Nat) : Int)
  zero : ∀ x ∈ C, D x = 0 ↔ x ∈ P ++ Q
  ord : ∀ i a, P[i]? = some a → ∀ b ∈ C, a ∈ dp b → b ∈ P.take i
variable {C dp}
theorem KSt.start (hn : C.Nodup) {D : Str → Int} {Q : List Str} (hD : ∀ x ∈ C, D x = (indeg dp C x : Nat)) (hQn : Q.Nodup) (hQ : ∀ x, x ∈ Q ↔ x ∈ C ∧ D x = 0) : KSt C dp D Q [] [] := by
  have e : rest C [] = C := by unfold rest; simp
  refine ⟨by simpa using hQn, fun x hx => ((hQ x).1 (by simpa using hx)).1, fun x hx => ?_, fun x hx => ?_, fun i a h => by simp at h⟩
  · rw [e, hD x hx]; simp
  · simp only [List.nil_append]
    exact ⟨fun h => (hQ x).2 ⟨hx, h⟩, fun h => ((hQ x).1 h).2⟩
/-- A name is taken from the queue. -/
theorem KSt.pop (hn : C.Nodup) {D : Str → Int} {a : Str} {Q P : List Str} (h : KSt C dp D (a :: Q) P []) : KSt C dp D Q (P ++ [a]) (dp a) := by
  have hmem : a ∈ P ++ (a :: Q) := by simp
  have haC := h.sub a hmem
  have hap : a ∉ P := fun hp => (List.nodup_append.1 h.nod).2.2 a hp a (by simp) rfl
  refine ⟨by simpa using h.nod, fun x hx => h.sub x (by simpa using hx), fun x hx => ?_, fun x hx => ?_, fun i b hb c hc hbc => ?_⟩
  · rw [h.deg x hx, indeg_perm (rest_snoc hn haC hap) x]
    unfold indeg
    simp only [List.map_cons, List.sum_cons, List.count_nil]
    omega
  · rw [h.zero x hx]; simp
  · rcases Nat.lt_or_ge i P.length with hi | hi
    · rw [List.getElem?_append_left hi] at hb
      rw [List.take_append_of_le_length (by omega)]
      exact h.ord i b hb c hc hbc
    · have hi0 : i = P.length := by
        rcases Nat.lt_or_ge P.length i with h1 | h1
        · rw [List.getElem?_eq_none (by simp; omega)] at hb; cases hb
        · omega
      subst hi0
      simp only [List.getElem?_concat_length, Option.some.injEq] at hb
      subst hb
      rw [List.take_left']
      · have h1 := (h.zero a haC).2 hmem
        rw [h.deg a haC] at h1
        have h2 : indeg dp (rest C P) a = 0 := by simp only [List.count_nil] at h1; omega
        rw [indeg_zero] at h2
        rcases Decidable.em (c ∈ P) with h3 | h3
        · exact h3
        · exact (h2 c (mem_rest.2 ⟨hc, h3⟩) hbc).elim
      · rfl
/-- One neighbour. -/
theorem KSt.step {D D' : Str → Int} {Q P left : List Str} {y : Str} (h : KSt C dp D Q P (y :: left)) (hy : y ∈ C) (hD : ∀ x, D' x = if x = y then D x - 1 else D x) :
    KSt C dp D' (if D' y = 0 then Q ++ [y] else Q) P left := by
  have h1 := h.deg y hy
  simp only [List.count_cons_self] at h1
  have hny : y ∉ P ++ Q := fun hm => by
    have := (h.zero y hy).2 hm
    omega
  have hD1 : D' y = D y - 1 := by rw [hD, if_pos rfl]
  refine ⟨?_, fun x hx => ?_, fun x hx => ?_, fun x hx => ?_, h.ord⟩
  · by_cases h0 : D' y = 0
    · rw [if_pos h0, ← List.append_assoc]
      refine List.nodup_append.2 ⟨h.nod, by simp, fun a ha b hb => ?_⟩
      simp only [List.mem_singleton] at hb
      subst hb
      exact fun e => hny (e ▸ ha)
    · rw [if_neg h0]; exact h.nod
  · by_cases h0 : D' y = 0
    · rw [if_pos h0, ← List.append_assoc] at hx
      rcases List.mem_append.1 hx with hx | hx
      · exact h.sub x hx
      · simp only [List.mem_singleton] at hx; exact hx ▸ hy
    · rw [if_neg h0] at hx; exact h.sub x hx
  · rw [hD]
    by_cases e : x = y
    · subst e
      rw [if_pos rfl, h1]; omega
    · rw [if_neg e, h.deg x hx, List.count_cons_of_ne (fun q => e q.symm)]
  · by_cases e : x = y
    · subst e
      by_cases h0 : D' x = 0
      · rw [if_pos h0]; simp [h0]
      · rw [if_neg h0]; exact ⟨fun q => (h0 q).elim, fun q => (hny q).elim⟩
    · have e1 : D' x = D x := by rw [hD, if_neg e]
      rw [e1, h.zero x hx]
      by_cases h0 : D' y = 0
      · rw [if_pos h0]; simp [e]
      · rw [if_neg h0]
theorem KSt.len {D : Str → Int} {Q P left : List Str} (h : KSt C dp D Q P left) : P.length + Q.length ≤ C.length := by
  have := length_le_of_subset h.nod h.sub
  simpa using this

/-- No circles: the names can be numbered so that each stands ahead of those of its list. -/
def Ranked (C : List Str) (dp : Str → List Str) : Prop := ∃ rank : Str → Nat, ∀ b ∈ C, ∀ a ∈ dp b, a ∈ C → rank b < rank a
theorem KSt.all {D : Str → Int} {P : List Str} (h : KSt C dp D [] P []) (hl : P.length = C.length) (hn : C.Nodup) : Ranked C dp := by
  have hnod : P.Nodup := by have := h.nod; simpa using this
  have hall : ∀ x ∈ C, x ∈ P := subset_back hnod (b := C) (fun x hx => h.sub x (by simpa using hx)) (by omega)
  refine ⟨fun x => P.idxOf x, fun b hb a ha hac => ?_⟩
  have hap := hall a hac
  have hi : P.idxOf a < P.length := List.idxOf_lt_length_of_mem hap
  have hb' := h.ord (P.idxOf a) a (by rw [List.getElem?_eq_getElem hi, List.getElem_idxOf]) b hb ha
  obtain ⟨j, hj, hjb⟩ := List.getElem_of_mem hb'
  have hj2 : j < P.idxOf a := by rw [List.length_take] at hj; omega
  have hjb2 : P[j]'(by omega) = b := by rw [List.getElem_take] at hjb; exact hjb
  have h3 : P.idxOf b ≤ j := by
    rw [← hjb2]
    exact Nat.le_of_eq (List.Nodup.idxOf_getElem hnod j (by omega))
  show P.idxOf b < P.idxOf a
  omega
theorem KSt.stuck (hn : C.Nodup) {D : Str → Int} {P : List Str} (h : KSt C dp D [] P []) (hl : P.length ≠ C.length) : ¬ Ranked C dp ∧ ∃ x ∈ C, 0 < D x := by
  have hlt : P.length < C.length := by have := h.len; simp only [List.length_nil] at this; omega
  have hnodP : P.Nodup := by have := h.nod; simpa using this
  have hex : ∃ x ∈ C, x ∉ P := by
    rcases Classical.em (∃ x ∈ C, x ∉ P) with h1 | h1
    · exact h1
    · exfalso
      have h2 : ∀ x ∈ C, x ∈ P := fun x hx => Classical.byContradiction fun hp => h1 ⟨x, hx, hp⟩
      have := length_le_of_subset hn h2
      omega
  have hpos : ∀ x ∈ C, x ∉ P → 0 < D x ∧ ∃ b ∈ C, b ∉ P ∧ x ∈ dp b := by
    intro x hx hp
    have h0 : D x ≠ 0 := fun e => hp (by have := (h.zero x hx).1 e; simpa using this)
    have h1 := h.deg x hx
    simp only [List.count_nil, Nat.add_zero] at h1
    have h2 : indeg dp (rest C P) x ≠ 0 := fun e => h0 (by rw [h1, e]; rfl)
    refine ⟨by omega, ?_⟩
    refine Classical.byContradiction fun hno => h2 (indeg_zero.2 fun a ha hxa => hno ?_)
    exact ⟨a, (mem_rest.1 ha).1, (mem_rest.1 ha).2, hxa⟩
  refine ⟨fun ⟨rank, hr⟩ => ?_, ?_⟩
  · have key : ∀ n x, rank x < n → x ∈ C → x ∉ P → False := by
      intro n
      induction n with
      | zero => intro x h1; omega
      | succ n ih =>
        intro x h1 hx hp
        obtain ⟨b, hb, hbp, hxb⟩ := (hpos x hx hp).2
        exact ih b (by have := hr b hb x hxb hx; omega) hb hbp
    obtain ⟨x, hx, hp⟩ := hex
    exact key _ x (Nat.lt_succ_self _) hx hp
  · obtain ⟨x, hx, hp⟩ := hex
    exact ⟨x, hx, (hpos x hx hp).1⟩
end
end Go.Proofs.YthhjehajdcgkhaaGreatDoor
