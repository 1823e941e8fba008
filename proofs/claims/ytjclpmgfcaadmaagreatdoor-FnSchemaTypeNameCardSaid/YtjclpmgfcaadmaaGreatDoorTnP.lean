/- FnSchemaTypeName, the plain law: the tokens of "entity NAME;" and "type NAME = __cedar::Long;". -/
import Derived.Test.YtjclpmgfcaadmaaGreatDoorLxK
namespace Go.Proofs.YtjclpmgfcaadmaaGreatDoor
open Go.RowKit Go.Lib

structure NameOk (t : ByteArray) : Prop where
  pos : 0 < t.size
  le : t.size ≤ 100
  first : isStart (at8 t 0) = true
  all : ∀ i, i < t.size → isCont (at8 t i) = true
  nokw : t ∉ kws
/-- t stands in s at place p -/
structure Lies (s t : ByteArray) (p : Nat) : Prop where
  le : p + t.size ≤ s.size
  eq : ∀ i, i < t.size → at8 s (p + i) = at8 t i
theorem at8_append_left {a b : ByteArray} {i : Nat} (h : i < a.size) : at8 (a ++ b) i = at8 a i := by
  have h2 : i < (a ++ b).size := by rw [ByteArray.size_append]; omega
  rw [← at8_get h, ← at8_get h2, ByteArray.getElem_append_left h]
theorem at8_append_right {a b : ByteArray} {i : Nat} (h : i < b.size) : at8 (a ++ b) (a.size + i) = at8 b i := by
  have h2 : a.size + i < (a ++ b).size := by rw [ByteArray.size_append]; omega
  rw [← at8_get h, ← at8_get h2, ByteArray.getElem_append_right (by omega)]
  congr 2
  omega
theorem Lies.self (a : ByteArray) : Lies a a 0 := ⟨by omega, fun i _ => by rw [Nat.zero_add]⟩
theorem Lies.left {a b t : ByteArray} {p : Nat} (h : Lies a t p) : Lies (a ++ b) t p :=
  ⟨by rw [ByteArray.size_append]; have := h.le; omega, fun i hi => by rw [at8_append_left (by have := h.le; omega)]; exact h.eq i hi⟩
theorem Lies.right (a b : ByteArray) : Lies (a ++ b) b a.size := ⟨by rw [ByteArray.size_append]; omega, fun i hi => at8_append_right hi⟩
theorem Lies.part {s t u : ByteArray} {p k : Nat} (h : Lies s t p) (g : Lies t u k) : Lies s u (p + k) :=
  ⟨by have := h.le; have := g.le; omega, fun i hi => by rw [Nat.add_assoc, h.eq _ (by have := g.le; omega)]; exact g.eq i hi⟩
theorem ext8 {a b : ByteArray} (h : a.size = b.size) (h2 : ∀ i, i < a.size → at8 a i = at8 b i) : a = b := by
  refine ByteArray.ext_getElem h fun i h3 h4 => ?_
  have := h2 i h3
  rw [← at8_get h3, ← at8_get h4] at this
  exact UInt8.toNat_inj.1 this
theorem Lies.extract {s t : ByteArray} {p : Nat} (h : Lies s t p) : s.extract p (p + t.size) = t := by
  have hz : (s.extract p (p + t.size)).size = t.size := by rw [ByteArray.size_extract]; have := h.le; omega
  refine ext8 hz fun i hi => ?_
  rw [← h.eq i (by omega), ← at8_get hi, ByteArray.getElem_extract, at8_get]
theorem Lies.idn {s t : ByteArray} {p : Nat} (h : Lies s t p) (h0 : 0 < t.size) (h1 : isStart (at8 t 0) = true) (h2 : ∀ i, i < t.size → isCont (at8 t i) = true) (h3 : at8 s (p + t.size) < 128 ∧ isCont (at8 s (p + t.size)) = false) : Idn s p (p + t.size) := by
  refine ⟨by omega, h.le, ?_, fun i hi hj => ?_, fun _ => ?_⟩
  · have := h.eq 0 h0
    rw [Nat.add_zero] at this
    rw [this]; exact h1
  · have := h.eq (i - p) (by omega)
    rw [show p + (i - p) = i by omega] at this
    rw [this]; exact h2 _ (by omega)
  · rw [(rune_ascii h3.1).1]; exact h3.2
theorem Lies.next {s t : ByteArray} {p p0 : Nat} (h : Lies s t p) (hk : Sk s p0 p) (h0 : 0 < t.size) (h1 : isStart (at8 t 0) = true) (h2 : ∀ i, i < t.size → isCont (at8 t i) = true) (h3 : at8 s (p + t.size) < 128 ∧ isCont (at8 s (p + t.size)) = false) : NextIs s p0 (identKind t) t (p + t.size) := by
  have := NextIs.ident p0 p (p + t.size) hk (h.idn h0 h1 h2 h3)
  rw [h.extract] at this
  exact this
theorem Sk.here {s : ByteArray} {p b : Nat} (h : p ≤ s.size) (hb : at8 s p = b) (h1 : b ≠ 32 ∧ b ≠ 9 ∧ b ≠ 13 ∧ b ≠ 10 ∧ b ≠ 47) : Sk s p p :=
  .stop p h fun _ => by rw [hb]; unfold isWs; omega
theorem Sk.sp {s : ByteArray} {p b : Nat} (h : p + 1 ≤ s.size) (hs : at8 s p = 32) (hb : at8 s (p + 1) = b) (h1 : b ≠ 32 ∧ b ≠ 9 ∧ b ≠ 13 ∧ b ≠ 10 ∧ b ≠ 47) : Sk s p (p + 1) :=
  .ws p _ (by omega) (.inl hs) (Sk.here h hb h1)
theorem start_ne {b : Nat} (h : isStart b = true) : b ≠ 32 ∧ b ≠ 9 ∧ b ≠ 13 ∧ b ≠ 10 ∧ b ≠ 47 := by unfold isStart at h; simp at h; omega
theorem NameOk.kind {t : ByteArray} (h : NameOk t) : identKind t = 1 := if_neg h.nokw
theorem entText {t s : ByteArray} (h : NameOk t) (hs : s = (⟨#[101, 110, 116, 105, 116, 121, 32]⟩ ++ t) ++ ⟨#[59]⟩) : NextIs s 0 1 ⟨#[101, 110, 116, 105, 116, 121]⟩ 6 ∧ EntText s t 6 := by
  have hz : s.size = 7 + t.size + 1 := by rw [hs, ByteArray.size_append, ByteArray.size_append]; rfl
  have l0 : Lies s ⟨#[101, 110, 116, 105, 116, 121, 32]⟩ 0 := hs ▸ (Lies.left (Lies.left (Lies.self _)))
  have l1 : Lies s t 7 := hs ▸ (Lies.left (Lies.right ⟨#[101, 110, 116, 105, 116, 121, 32]⟩ t))
  have l2 : Lies s ⟨#[59]⟩ (7 + t.size) := by
    have := Lies.right (⟨#[101, 110, 116, 105, 116, 121, 32]⟩ ++ t) ⟨#[59]⟩
    rw [← hs, ByteArray.size_append] at this
    exact this
  have a0 : at8 s 0 = 101 := l0.eq 0 (by decide)
  have a6 : at8 s 6 = 32 := l0.eq 6 (by decide)
  have a7 : at8 s 7 = at8 t 0 := l1.eq 0 h.pos
  have ae : at8 s (7 + t.size) = 59 := l2.eq 0 (by decide)
  have hp := h.pos
  refine ⟨?_, ⟨7 + t.size, 7 + t.size + 1, 7 + t.size + 1, ?_, ?_, ?_⟩⟩
  · exact Lies.next (t := ⟨#[101, 110, 116, 105, 116, 121]⟩) (l0.part (k := 0) ⟨by decide, by decide⟩) (Sk.here (by omega) a0 (by omega)) (by decide) (by decide) (by decide) (by rw [show 0 + 0 + (⟨#[101, 110, 116, 105, 116, 121]⟩ : ByteArray).size = 6 by rfl, a6]; decide)
  · rw [← h.kind]
    exact l1.next (Sk.sp (by omega) a6 a7 (start_ne h.first)) h.pos h.first h.all (by rw [ae]; decide)
  · exact .sym _ _ 59 13 _ (Sk.here (by omega) ae (by omega)) (by omega) ae .semi
  · exact .eof _ _ (.stop _ (by omega) (fun h => by omega)) hz
theorem comText {t s : ByteArray} (h : NameOk t) (hs : s = (⟨#[116, 121, 112, 101, 32]⟩ ++ t) ++ ⟨#[32, 61, 32, 95, 95, 99, 101, 100, 97, 114, 58, 58, 76, 111, 110, 103, 59]⟩) : NextIs s 0 1 ⟨#[116, 121, 112, 101]⟩ 4 ∧ ComText s t 4 := by
  have hz : s.size = 5 + t.size + 17 := by rw [hs, ByteArray.size_append, ByteArray.size_append]; rfl
  have l0 : Lies s ⟨#[116, 121, 112, 101, 32]⟩ 0 := hs ▸ (Lies.left (Lies.left (Lies.self _)))
  have l1 : Lies s t 5 := hs ▸ (Lies.left (Lies.right ⟨#[116, 121, 112, 101, 32]⟩ t))
  have l2 : Lies s ⟨#[32, 61, 32, 95, 95, 99, 101, 100, 97, 114, 58, 58, 76, 111, 110, 103, 59]⟩ (5 + t.size) := by
    have := Lies.right (⟨#[116, 121, 112, 101, 32]⟩ ++ t) ⟨#[32, 61, 32, 95, 95, 99, 101, 100, 97, 114, 58, 58, 76, 111, 110, 103, 59]⟩
    rw [← hs, ByteArray.size_append] at this
    exact this
  have a0 : at8 s 0 = 116 := l0.eq 0 (by decide)
  have a4 : at8 s 4 = 32 := l0.eq 4 (by decide)
  have a5 : at8 s 5 = at8 t 0 := l1.eq 0 h.pos
  obtain ⟨p, hpe⟩ : ∃ p, p = 5 + t.size := ⟨_, rfl⟩
  rw [← hpe] at hz l2
  have b0 : at8 s p = 32 := l2.eq 0 (by decide)
  have b1 : at8 s (p + 1) = 61 := l2.eq 1 (by decide)
  have b2 : at8 s (p + 2) = 32 := l2.eq 2 (by decide)
  have b3 : at8 s (p + 3) = 95 := l2.eq 3 (by decide)
  have b10 : at8 s (p + 10) = 58 := l2.eq 10 (by decide)
  have b11 : at8 s (p + 11) = 58 := l2.eq 11 (by decide)
  have b12 : at8 s (p + 12) = 76 := l2.eq 12 (by decide)
  have b16 : at8 s (p + 16) = 59 := l2.eq 16 (by decide)
  have hp := h.pos
  refine ⟨?_, ⟨p, p + 1 + 1, p + 3 + 7, p + 10 + 1 + 1, p + 12 + 4, p + 16 + 1, p + 16 + 1, ?_, ?_, ?_, ?_, ?_, ?_, ?_⟩⟩
  · exact Lies.next (t := ⟨#[116, 121, 112, 101]⟩) (l0.part (k := 0) ⟨by decide, by decide⟩) (Sk.here (by omega) a0 (by omega)) (by decide) (by decide) (by decide) (by rw [show 0 + 0 + (⟨#[116, 121, 112, 101]⟩ : ByteArray).size = 4 by rfl, a4]; decide)
  · rw [← h.kind, hpe]
    exact l1.next (Sk.sp (by omega) a4 a5 (start_ne h.first)) h.pos h.first h.all (by rw [← hpe, b0]; decide)
  · exact .sym _ _ 61 17 _ (Sk.sp (by omega) b0 b1 (by omega)) (by omega) b1 .equals
  · exact Lies.next (t := ⟨#[95, 95, 99, 101, 100, 97, 114]⟩) (l2.part (k := 3) ⟨by decide, by decide⟩) (Sk.sp (by omega) b2 b3 (by omega)) (by decide) (by decide) (by decide) (by rw [show p + 3 + (⟨#[95, 95, 99, 101, 100, 97, 114]⟩ : ByteArray).size = p + 10 by rfl, b10]; decide)
  · exact .dcol _ _ (Sk.here (by omega) b10 (by omega)) (by omega) b10 (by omega) b11
  · exact Lies.next (t := ⟨#[76, 111, 110, 103]⟩) (l2.part (k := 12) ⟨by decide, by decide⟩) (Sk.here (by omega) b12 (by omega)) (by decide) (by decide) (by decide) (by rw [show p + 12 + (⟨#[76, 111, 110, 103]⟩ : ByteArray).size = p + 16 by rfl, b16]; decide)
  · exact .sym _ _ 59 13 _ (Sk.here (by omega) b16 (by omega)) (by omega) b16 .semi
  · exact .eof _ _ (.stop _ (by omega) (fun h => by omega)) (by omega)
end Go.Proofs.YtjclpmgfcaadmaaGreatDoor
