/- Rows of records that a loop of the call's own appends to; no program in sight. -/
import Derived.Test.YthhjehajdcgkhaaGreatDoorIs
import Derived.Maps.AppendAt
namespace Go.Proofs.YthhjehajdcgkhaaGreatDoor
open Go.RowKit

/-- the block in which a slice's row lies -/
def OB (v : Value) (i : Nat) : Prop := v.ownBlock = some i

/-- A relation between data and cells that is kept while other blocks turn. -/
structure KeepsC {α : Type} (R : World → (Nat → Prop) → α → List Value → Prop) : Prop where
  k : ∀ {w w' : World} {M M' M2 : Nat → Prop} {x : α} {cs : List Value}, Keep M2 w w' → (∀ i, i < w.heap.size → M2 i → M i) → (∀ i, i < w.heap.size → M' i → M i) → R w M x cs → R w' M' x cs

/-- A slice of the call's own, told by its elements. -/
def RowIs {α : Type} (R : World → (Nat → Prop) → α → List Value → Prop) (w : World) (base : Nat) (E : TypeId) (size : Nat) (v : Value) (l : List α) : Prop :=
  ∃ xss : List (List Value), xss.length = l.length ∧ (∀ (i : Nat) (x : α), l[i]? = some x → ∃ cs, xss[i]? = some cs ∧ cs.length = size ∧ R w (fun i => OB v i ∨ i < base) x cs) ∧ w.ownsRow base E size v l.length xss.flatten

section
variable {α : Type} {R : World → (Nat → Prop) → α → List Value → Prop} {w w' : World} {base : Nat} {E : TypeId} {size : Nat} {v : Value} {l : List α}
theorem RowIs.nil (R : World → (Nat → Prop) → α → List Value → Prop) (w : World) (base : Nat) (E : TypeId) (size : Nat) : RowIs R w base E size (.slice none 0 0) [] :=
  ⟨[], rfl, fun i x h => by simp at h, World.ownsRow_nil w base E size⟩
theorem RowIs.keep {M : Nat → Prop} (hR : KeepsC R) (h : RowIs R w base E size v l) (k : Keep M w w') (hM : ∀ i, M i → i < base) : RowIs R w' base E size v l := by
  obtain ⟨xss, h1, h2, h3⟩ := h
  refine ⟨xss, h1, fun i x hx => ?_, h3.keep k fun i hi hm => by have := hM i hm; omega⟩
  obtain ⟨cs, a, b, c⟩ := h2 i x hx
  exact ⟨cs, a, b, hR.k k (fun i _ hi => .inr (hM i hi)) (fun _ _ h => h) c⟩
theorem RowIs.keep0 (hR : KeepsC R) (h : RowIs R w base E size v l) (k : Keep NoB w w') : RowIs R w' base E size v l := h.keep hR k fun _ h => h.elim
theorem RowIs.opened (hR : KeepsC R) (h : RowIs R w base E size v l) : ∃ xs : List Value, w.ownsRow base E size v l.length xs ∧
    ∀ (g cap : Nat) (w' : World) (x : α) (cs : List Value), cs.length = size → R w (fun i => OB v i ∨ i < base) x cs → w'.ownsRow base E size (.slice (some ⟨g, 0, none⟩) (l.length + 1) cap) (l.length + 1) (xs ++ cs) → w.grownBy w' v.ownBlock → (v.ownBlock = some g ∨ g = w.heap.size) →
      RowIs R w' base E size (.slice (some ⟨g, 0, none⟩) (l.length + 1) cap) (l ++ [x]) ∧ Keep (OB v) w w' := by
  obtain ⟨xss, h1, h2, h3⟩ := h
  refine ⟨xss.flatten, h3, fun g cap w' x cs hcs hx hown hg hat => ?_⟩
  obtain ⟨v', hv'⟩ : ∃ v' : Value, v' = .slice (some ⟨g, 0, none⟩) (l.length + 1) cap := ⟨_, rfl⟩
  have hat' : v'.ownBlock = v.ownBlock ∨ v'.ownBlock = some w.heap.size := by
    rw [hv']
    rcases hat with h | h
    · exact .inl h.symm
    · exact .inr (by rw [h]; rfl)
  rw [← hv'] at hown ⊢
  clear hv' hat
  have kg : Keep (OB v) w w' := Keep.grown hg fun i hi _ => hi
  have hM : ∀ i, i < w.heap.size → (OB v' i ∨ i < base) → (OB v i ∨ i < base) := fun i hi h => by
    rcases h with h | h
    · rcases hat' with e | e
      · exact .inl (by unfold OB at *; rw [← e]; exact h)
      · unfold OB at h; rw [e] at h; cases h; omega
    · exact .inr h
  refine ⟨⟨xss ++ [cs], by simp [h1], fun i y hy => ?_, ?_⟩, kg⟩
  · rcases Nat.lt_or_ge i l.length with hi | hi
    · rw [List.getElem?_append_left hi] at hy
      obtain ⟨c, a, b, d⟩ := h2 i y hy
      exact ⟨c, by rw [List.getElem?_append_left (by omega)]; exact a, b, hR.k kg (fun _ _ h => .inl h) hM d⟩
    · rw [List.getElem?_append_right hi] at hy
      have hi0 : i - l.length = 0 := by
        rcases Nat.eq_zero_or_pos (i - l.length) with e | e
        · exact e
        · rw [List.getElem?_eq_none (by simp; omega)] at hy; cases hy
      rw [hi0] at hy
      simp only [List.getElem?_cons_zero, Option.some.injEq] at hy
      subst hy
      refine ⟨cs, by rw [List.getElem?_append_right (by omega), show i - xss.length = 0 by omega]; rfl, hcs, hR.k kg (fun _ _ h => .inl h) hM hx⟩
  · rw [List.flatten_append, List.length_append]
    simpa using hown
theorem RowIs.lt (h : RowIs R w base E size v l) : ∀ i, OB v i → base ≤ i ∧ i < w.heap.size := by
  obtain ⟨xss, _, _, h3⟩ := h
  exact fun i hi => World.ownsRow.lt h3 i hi
theorem RowIs.shape (h : RowIs R w base E size v l) : ∃ o c, v = .slice o l.length c := by
  obtain ⟨xss, _, _, h3⟩ := h
  rcases h3.2 with ⟨rfl, h0⟩ | ⟨g, cap, cur, rfl, _⟩
  · exact ⟨none, 0, by rw [h0]⟩
  · exact ⟨_, _, rfl⟩

theorem flatten_at : ∀ {xss : List (List Value)} {n : Nat} (_ : ∀ cs ∈ xss, cs.length = n) (i j : Nat) (cs : List Value), xss[i]? = some cs → j < n → xss.flatten[i * n + j]? = cs[j]?
  | [], _, _, _, _, _, h, _ => by simp at h
  | c :: xss, n, hn, i, j, cs, h, hj => by
    have hc := hn c (.head _)
    rw [List.flatten_cons]
    cases i with
    | zero =>
      simp only [List.getElem?_cons_zero, Option.some.injEq] at h
      subst h
      rw [Nat.zero_mul, Nat.zero_add, List.getElem?_append_left (by omega)]
    | succ i =>
      rw [List.getElem?_cons_succ] at h
      rw [List.getElem?_append_right (by rw [hc, Nat.succ_mul]; omega), show (i + 1) * n + j - c.length = i * n + j by rw [hc, Nat.succ_mul]; omega]
      exact flatten_at (fun cs h => hn cs (.tail _ h)) i j cs h hj

theorem RowIs.over (hR : KeepsC R) (h : RowIs R w base E size v l) : ∃ ov c, v = .slice ov l.length c ∧ (l = [] ∨ ∃ b, ov = some ⟨b, 0, none⟩ ∧ base ≤ b ∧ ∀ i x, l[i]? = some x → ∃ cs, cs.length = size ∧ CellsAt w b (0 + i * size) cs ∧ R w (· < base) x cs) := by
  obtain ⟨xss, h1, h2, h3⟩ := h
  have hall : ∀ cs ∈ xss, cs.length = size := by
    intro cs hcs
    obtain ⟨i, hi⟩ := List.getElem?_of_mem hcs
    have hi' : i < l.length := by
      have := (List.getElem?_eq_some_iff.1 hi).1; omega
    obtain ⟨c, a, b, _⟩ := h2 i _ (List.getElem?_eq_getElem hi')
    rw [hi] at a; cases a; exact b
  have hcells := @World.ownsRow.cells _ _ _ _ _ _ _ h3
  rcases h3.2 with ⟨rfl, h0⟩ | ⟨g, cap, cur, rfl, hb, _⟩
  · exact ⟨none, 0, by rw [h0], .inl (List.eq_nil_of_length_eq_zero h0)⟩
  · refine ⟨_, _, rfl, .inr ⟨g, rfl, hb, fun i x hx => ?_⟩⟩
    obtain ⟨cs, a, b, c⟩ := h2 i x hx
    refine ⟨cs, b, fun j u hu => ?_, hR.k (Keep.refl NoB w) (fun _ _ h => h.elim) (fun _ _ h => .inr h) c⟩
    have hj : j < size := by have := (List.getElem?_eq_some_iff.1 hu).1; omega
    have := hcells (g := g) rfl (i * size + j) u (by rw [flatten_at hall i j cs a hj]; exact hu)
    rw [show (⟨g, 0, none⟩ : Addr).add (i * size + j) = ⟨g, i * size + j, none⟩ by unfold Addr.add; split <;> simp_all] at this
    rw [Nat.zero_add]; exact this
end
end Go.Proofs.YthhjehajdcgkhaaGreatDoor
