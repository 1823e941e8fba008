/- The schema's lexer, plain: what is passed ahead of a token; identifiers. -/
import Derived.Test.YtjclpmgfcaadmaaGreatDoorBlP
namespace Go.Proofs.YtjclpmgfcaadmaaGreatDoor
open Go.RowKit Go.Lib

mutual
/-- from p on there are blanks and remarks alone up to q, and behind them the text's end or something else -/
inductive Sk (s : ByteArray) : Nat → Nat → Prop
  | stop (p : Nat) : p ≤ s.size → (p < s.size → ¬ isWs (at8 s p) ∧ at8 s p ≠ 47) → Sk s p p
  | ws (p q : Nat) : p < s.size → isWs (at8 s p) → Sk s (p + 1) q → Sk s p q
  | com (p q : Nat) : p + 1 < s.size → at8 s p = 47 → at8 s (p + 1) = 47 → SkC s (p + 2) q → Sk s p q
inductive SkC (s : ByteArray) : Nat → Nat → Prop
  | stop (p : Nat) : s.size = p → SkC s p p
  | nl (p q : Nat) : p < s.size → at8 s p = 10 → Sk s (p + 1) q → SkC s p q
  | on (p q : Nat) : p < s.size → at8 s p ≠ 10 → SkC s (p + 1) q → SkC s p q
end
theorem Sk.inv {s : ByteArray} {p q : Nat} (h : Sk s p q) : (p = q ∧ p ≤ s.size ∧ (p < s.size → ¬ isWs (at8 s p) ∧ at8 s p ≠ 47)) ∨ (p < s.size ∧ isWs (at8 s p) ∧ Sk s (p + 1) q) ∨ (p + 1 < s.size ∧ at8 s p = 47 ∧ at8 s (p + 1) = 47 ∧ SkC s (p + 2) q) := by
  cases h with
  | stop _ h1 h2 => exact .inl ⟨rfl, h1, h2⟩
  | ws _ _ h1 h2 h3 => exact .inr (.inl ⟨h1, h2, h3⟩)
  | com _ _ h1 h2 h3 h4 => exact .inr (.inr ⟨h1, h2, h3, h4⟩)
theorem SkC.inv {s : ByteArray} {p q : Nat} (h : SkC s p q) (hk : p < s.size) : (at8 s p = 10 ∧ Sk s (p + 1) q) ∨ (at8 s p ≠ 10 ∧ SkC s (p + 1) q) := by
  cases h with
  | stop _ h => omega
  | nl _ _ h1 h2 h3 => exact .inl ⟨h2, h3⟩
  | on _ _ h1 h2 h3 => exact .inr ⟨h2, h3⟩
theorem SkC.at_end {s : ByteArray} {p q : Nat} (h : SkC s p q) (hk : ¬ p < s.size) : p = q ∧ s.size = p := by
  cases h with
  | stop _ h => exact ⟨rfl, h⟩
  | nl _ _ h1 _ _ => omega
  | on _ _ h1 _ _ => omega
theorem SkC.skip {s : ByteArray} {p q : Nat} (h : SkC s p q) : ∀ m, p + m ≤ s.size → (∀ i, i < m → at8 s (p + i) ≠ 10) → SkC s (p + m) q
  | 0, _, _ => h
  | m + 1, h1, h2 => by
    have ih := SkC.skip h m (by omega) (fun i hi => h2 i (by omega))
    rcases ih.inv (by omega) with ⟨h3, _⟩ | ⟨_, h3⟩
    · exact (h2 m (by omega) h3).elim
    · exact h3
theorem SkC.pass {s : ByteArray} {k q : Nat} (h : SkC s k q) (hk : k < s.size) (hr : runeAt s k ≠ 10) : SkC s (k + wideAt s k) q := by
  obtain ⟨h1, h2, h3⟩ := rune_wide hk
  refine h.skip _ h2 fun i hi => ?_
  rcases h3 with ⟨h3, h4, _⟩ | ⟨_, h4⟩
  · have : i = 0 := by omega
    subst this
    rw [Nat.add_zero, ← h3]; exact hr
  · have := (rune_far h4 hk).2.2.2 i hi
    omega
theorem SkC.end_nl {s : ByteArray} {k q : Nat} (h : SkC s k q) (hk : k < s.size) (hr : runeAt s k = 10) : Sk s (k + 1) q ∧ at8 s k = 10 := by
  obtain ⟨_, _, h3⟩ := rune_wide hk
  have h10 : at8 s k = 10 := by omega
  rcases h.inv hk with ⟨_, h⟩ | ⟨h, _⟩
  · exact ⟨h, h10⟩
  · exact (h h10).elim
theorem Sk.le {s : ByteArray} {p q : Nat} (h : Sk s p q) : p ≤ q ∧ q ≤ s.size := by
  refine Sk.rec (motive_1 := fun p q _ => p ≤ q ∧ q ≤ s.size) (motive_2 := fun p q _ => p ≤ q ∧ q ≤ s.size) ?_ ?_ ?_ ?_ ?_ ?_ h
  · intro p h _; exact ⟨Nat.le_refl _, h⟩
  · intro p q _ _ _ ih; omega
  · intro p q _ _ _ _ ih; omega
  · intro p h; omega
  · intro p q _ _ _ ih; omega
  · intro p q _ _ _ ih; omega

/-! ### identifiers -/
def isStart (b : Nat) : Bool := (97 ≤ b && b ≤ 122) || (65 ≤ b && b ≤ 90) || b == 95
def isCont (b : Nat) : Bool := isStart b || (48 ≤ b && b ≤ 57)
theorem isStart_lt {b : Nat} (h : isStart b = true) : b < 128 := by unfold isStart at h; simp at h; omega
theorem isCont_lt {b : Nat} (h : isCont b = true) : b < 128 := by unfold isCont isStart at h; simp at h; omega
/-- from p to q there is an identifier, and behind it none of its letters -/
structure Idn (s : ByteArray) (p q : Nat) : Prop where
  lt : p < q
  le : q ≤ s.size
  first : isStart (at8 s p) = true
  all : ∀ i, p ≤ i → i < q → isCont (at8 s i) = true
  over : q < s.size → isCont (runeAt s q) = false
end Go.Proofs.YtjclpmgfcaadmaaGreatDoor
