/- FnSchemaBlank, the plain law: blanks and remarks, and what a lexer that goes by runes does with them. -/
import Derived.Lib.TrimU
import Derived.Lib.FieldsU
import Derived.Lib.QuoteLoop
namespace Go.Proofs.YtjclpmgfcaadmaaGreatDoor
open Go.RowKit Go.Lib

/-- the byte at a place -/
def at8 (s : ByteArray) (k : Nat) : Nat := (s.get! k).toNat
theorem at8_get {s : ByteArray} {k : Nat} (h : k < s.size) : (s[k]).toNat = at8 s k := by
  show (s.data[k]'h).toNat = (s.data[k]!).toNat
  rw [getElem!_pos s.data k h]
def isWs (b : Nat) : Prop := b = 32 ∨ b = 9 ∨ b = 13 ∨ b = 10
mutual
/-- from a place on there are blanks and remarks alone -/
inductive Bl (s : ByteArray) : Nat → Prop
  | stop (k : Nat) : s.size ≤ k → Bl s k
  | ws (k : Nat) : k < s.size → isWs (at8 s k) → Bl s (k + 1) → Bl s k
  | com (k : Nat) : k + 1 < s.size → at8 s k = 47 → at8 s (k + 1) = 47 → Cm s (k + 2) → Bl s k
/-- within a remark -/
inductive Cm (s : ByteArray) : Nat → Prop
  | stop (k : Nat) : s.size ≤ k → Cm s k
  | nl (k : Nat) : k < s.size → at8 s k = 10 → Bl s (k + 1) → Cm s k
  | on (k : Nat) : k < s.size → at8 s k ≠ 10 → Cm s (k + 1) → Cm s k
end
theorem Bl.inv {s : ByteArray} {k : Nat} (h : Bl s k) (hk : k < s.size) : (isWs (at8 s k) ∧ Bl s (k + 1)) ∨ (k + 1 < s.size ∧ at8 s k = 47 ∧ at8 s (k + 1) = 47 ∧ Cm s (k + 2)) := by
  cases h with
  | stop _ h => omega
  | ws _ _ h1 h2 => exact .inl ⟨h1, h2⟩
  | com _ h1 h2 h3 h4 => exact .inr ⟨h1, h2, h3, h4⟩
theorem Cm.inv {s : ByteArray} {k : Nat} (h : Cm s k) (hk : k < s.size) : (at8 s k = 10 ∧ Bl s (k + 1)) ∨ (at8 s k ≠ 10 ∧ Cm s (k + 1)) := by
  cases h with
  | stop _ h => omega
  | nl _ _ h1 h2 => exact .inl ⟨h1, h2⟩
  | on _ _ h1 h2 => exact .inr ⟨h1, h2⟩
theorem Cm.at_nl {s : ByteArray} {k : Nat} (h : Cm s k) (hk : k < s.size) (h10 : at8 s k = 10) : Bl s (k + 1) := by
  rcases h.inv hk with ⟨_, h⟩ | ⟨h, _⟩
  · exact h
  · exact (h h10).elim
theorem Cm.skip {s : ByteArray} {k : Nat} (h : Cm s k) : ∀ m, k + m ≤ s.size → (∀ i, i < m → at8 s (k + i) ≠ 10) → Cm s (k + m)
  | 0, _, _ => h
  | m + 1, h1, h2 => by
    have ih := Cm.skip h m (by omega) (fun i hi => h2 i (by omega))
    rcases ih.inv (by omega) with ⟨h3, _⟩ | ⟨_, h3⟩
    · exact (h2 m (by omega) h3).elim
    · exact h3
theorem Cm.bl {s : ByteArray} {k : Nat} (h1 : k + 1 < s.size) (h2 : at8 s k = 47) (h3 : at8 s (k + 1) = 47) (h : Cm s k) : Bl s k := by
  rcases h.inv (by omega) with ⟨h4, _⟩ | ⟨_, h4⟩
  · omega
  · rcases h4.inv h1 with ⟨h5, _⟩ | ⟨_, h5⟩
    · omega
    · exact .com k h1 h2 h3 h5

/-! ### runes -/
theorem decodeN_ascii (n b0 b1 b2 b3 : Nat) (h : b0 < 128) : decodeN n b0 b1 b2 b3 = (b0, 1) := by
  unfold decodeN; rw [if_pos h]
theorem decodeN_far (n b0 b1 b2 b3 : Nat) (h : 128 ≤ b0) (hn : 0 < n) : 128 ≤ (decodeN n b0 b1 b2 b3).1 ∧ (decodeN n b0 b1 b2 b3).2 ≤ n ∧ 1 ≤ (decodeN n b0 b1 b2 b3).2 ∧ (decodeN n b0 b1 b2 b3).2 ≤ 4 ∧
    (2 ≤ (decodeN n b0 b1 b2 b3).2 → 128 ≤ b1) ∧ (3 ≤ (decodeN n b0 b1 b2 b3).2 → 128 ≤ b2) ∧ (4 ≤ (decodeN n b0 b1 b2 b3).2 → 128 ≤ b3) := by
  unfold decodeN
  repeat' split
  all_goals (simp only; omega)
/-- the rune at a place, and its width -/
def runeAt (s : ByteArray) (k : Nat) : Nat := (Utf8.decode s k).1
def wideAt (s : ByteArray) (k : Nat) : Nat := (Utf8.decode s k).2
theorem rune_ascii {s : ByteArray} {k : Nat} (h : at8 s k < 128) : runeAt s k = at8 s k ∧ wideAt s k = 1 := by
  unfold runeAt wideAt
  rw [decode_at, decodeN_ascii _ _ _ _ _ (show (s.get! k).toNat < 128 from h)]
  exact ⟨rfl, rfl⟩
theorem rune_far {s : ByteArray} {k : Nat} (h : 128 ≤ at8 s k) (hk : k < s.size) : 128 ≤ runeAt s k ∧ k + wideAt s k ≤ s.size ∧ 1 ≤ wideAt s k ∧ ∀ i, i < wideAt s k → 128 ≤ at8 s (k + i) := by
  unfold runeAt wideAt
  rw [decode_at]
  obtain ⟨h1, h2, h3, h4, h5, h6, h7⟩ := decodeN_far (s.size - k) (s.get! k).toNat (s.get! (k + 1)).toNat (s.get! (k + 2)).toNat (s.get! (k + 3)).toNat h (by omega)
  refine ⟨h1, by omega, h3, fun i hi => ?_⟩
  match i with
  | 0 => exact h
  | 1 => exact h5 (by omega)
  | 2 => exact h6 (by omega)
  | 3 => exact h7 (by omega)
  | i + 4 => omega
theorem rune_wide {s : ByteArray} {k : Nat} (hk : k < s.size) : 1 ≤ wideAt s k ∧ k + wideAt s k ≤ s.size ∧ (runeAt s k = at8 s k ∧ wideAt s k = 1 ∧ at8 s k < 128 ∨ 128 ≤ runeAt s k ∧ 128 ≤ at8 s k) := by
  by_cases h : at8 s k < 128
  · obtain ⟨h1, h2⟩ := rune_ascii h
    exact ⟨by omega, by omega, .inl ⟨h1, h2, h⟩⟩
  · obtain ⟨h1, h2, h3, _⟩ := rune_far (s := s) (k := k) (by omega) hk
    exact ⟨h3, h2, .inr ⟨h1, by omega⟩⟩
/-- Within a remark, a rune that is no new line is passed. -/
theorem Cm.pass {s : ByteArray} {k : Nat} (h : Cm s k) (hk : k < s.size) (hr : runeAt s k ≠ 10) : Cm s (k + wideAt s k) := by
  obtain ⟨h1, h2, h3⟩ := rune_wide hk
  refine h.skip _ h2 fun i hi => ?_
  rcases h3 with ⟨h3, h4, _⟩ | ⟨_, h4⟩
  · have : i = 0 := by omega
    subst this
    rw [Nat.add_zero, ← h3]; exact hr
  · have := (rune_far h4 hk).2.2.2 i hi
    omega
theorem Cm.end_nl {s : ByteArray} {k : Nat} (h : Cm s k) (hk : k < s.size) (hr : runeAt s k = 10) : Bl s (k + 1) ∧ at8 s k = 10 := by
  obtain ⟨_, _, h3⟩ := rune_wide hk
  have : at8 s k = 10 := by omega
  exact ⟨h.at_nl hk this, this⟩
end Go.Proofs.YtjclpmgfcaadmaaGreatDoor
