/- Maps by identifiers: keys that are structs of two strings. -/
import Derived.Test.YtedgonoeeeiilaaGreatDoorJBase
import Derived.Test.YtedgonoeeeiilaaGreatDoorProg
import Derived.Laws.StructEq
import Derived.ProofKit
namespace Go.Proofs.YtedgonoeeeiilaaGreatDoor
open Go.MapKept Go.RowKit

/-- An identifier as a value. -/
def encU (u : ByteArray × ByteArray) : Value := .agg #[.string u.1, .string u.2]
/-- A type that is a struct of two strings. -/
structure TwoStr (P : Program) (kt : TypeId) : Prop where
  st : ∃ fs, P.underlying kt = some (.struct fs)
  check : ∀ (w : World) (em : Bool) (a b : ByteArray), (Instr.checkKey em 10000 kt (.agg #[.string a, .string b])).run P w = .ok () w
  equal : ∀ (w : World) (a b c d : ByteArray), (Op.equal kt (.agg #[.string a, .string b]) (.agg #[.string c, .string d])).run P w = .ok (a.toList == c.toList && b.toList == d.toList) w
theorem uid_beq {x y : ByteArray × ByteArray} : (x.1.toList == y.1.toList && x.2.toList == y.2.toList) = decide (x = y) := by
  obtain ⟨a, b⟩ := x
  obtain ⟨c, d⟩ := y
  rw [Bool.eq_iff_iff, Bool.and_eq_true, toList_beq, toList_beq, decide_eq_true_iff, Prod.mk.injEq]
theorem findAsking_uid {P : Program} {kt : TypeId} (h : TwoStr P kt) (w : World) (x : ByteArray × ByteArray) : ∀ (es : List MapEntry) (i : Nat), (∀ e ∈ es, ∃ y, e.key = encU y) →
    ((Instr.findAsking kt (encU x) es i).run P w = .ok none w ∧ ∀ e ∈ es, e.key ≠ encU x) ∨ ∃ j e, (Instr.findAsking kt (encU x) es i).run P w = .ok (some (i + j, e.val)) w ∧ es[j]? = some e ∧ e.key = encU x
  | [], _, _ => .inl ⟨rfl, by simp⟩
  | e :: es, i, hes => by
    obtain ⟨y, hy⟩ := hes e (.head _)
    have he := h.equal w x.1 x.2 y.1 y.2
    rw [uid_beq] at he
    have he' : (Op.equal kt (encU x) e.key).run P w = .ok (decide (x = y)) w := by rw [hy]; exact he
    by_cases hxy : x = y
    · refine .inr ⟨0, e, ?_, rfl, by rw [hy, hxy]⟩
      have ht : (Op.equal kt (encU x) e.key).run P w = .ok true w := by rw [he', decide_eq_true hxy]
      simp [Instr.findAsking, ht, Result.andThen]
    · have hstep : (Instr.findAsking kt (encU x) (e :: es) i).run P w = (Instr.findAsking kt (encU x) es (i + 1)).run P w := by
        have ht : (Op.equal kt (encU x) e.key).run P w = .ok false w := by rw [he', decide_eq_false hxy]
        simp [Instr.findAsking, ht, Result.andThen]
      have hne : e.key ≠ encU x := fun q => hxy (by rw [hy] at q; unfold encU at q; simp at q; exact Prod.ext q.1.symm q.2.symm)
      rcases findAsking_uid h w x es (i + 1) (fun e he => hes e (.tail _ he)) with ⟨h1, h2⟩ | ⟨j, e', h1, h2, h3⟩
      · refine .inl ⟨by rw [hstep, h1], fun e2 he2 => ?_⟩
        rcases List.mem_cons.1 he2 with rfl | he2
        · exact hne
        · exact h2 e2 he2
      · refine .inr ⟨j + 1, e', by rw [hstep, h1, show i + 1 + j = i + (j + 1) by omega], by simpa using h2, h3⟩
theorem uidKey {P : Program} {kt : TypeId} (h : TwoStr P kt) : KeyRun P kt encU where
  inj := fun {a b} q => by unfold encU at q; simp at q; exact Prod.ext q.1 q.2
  check := fun w em x => h.check w em x.1 x.2
  find := fun w x es hes => by
    obtain ⟨fs, hu⟩ := h.st
    cases es with
    | nil => exact .inl ⟨by simp [Instr.findKey, run_underlying hu, Result.andThen, Instr.findNow], by simp⟩
    | cons e es =>
      obtain ⟨y, hy⟩ := hes e (.head _)
      have hrun : (Instr.findKey kt (encU x) (e :: es)).run P w = (Instr.findAsking kt (encU x) (e :: es) 0).run P w := by
        simp [Instr.findKey, run_underlying hu, Result.andThen, Instr.findNow, Instr.sameNow, hy, encU]
      rw [hrun]
      rcases findAsking_uid h w x (e :: es) 0 hes with h1 | ⟨j, e', h1, h2, h3⟩
      · exact .inl h1
      · exact .inr ⟨j, e', by rw [h1, Nat.zero_add], h2, h3⟩
  stays := fun w x => by
    have hs : ∀ (s : ByteArray) (n : Nat), Instr.sameBits (n + 1) (.string s) (.string s) = true := fun s n => by simp [Instr.sameBits]
    have : Instr.sameBits 10000 (encU x) (encU x) = true := by
      unfold encU
      simp [Instr.sameBits]
    simp [Instr.keyThatStays, this]
/-- A struct of two fields whose types are strings' kinds is such a type; closed facts only. -/
theorem twoStr_of {P : Program} {kt t1 t2 : TypeId} {n1 n2 g1 g2 q1 q2 : String} {e1 e2 : Bool} {b1 b2 : Nat}
    (hu : P.underlying kt = some (.struct #[{ name := n1, type := t1, offset := 0, embedded := e1, tag := g1, pkgPath := q1, byteOffset := b1 }, { name := n2, type := t2, offset := 1, embedded := e2, tag := g2, pkgPath := q2, byteOffset := b2 }]))
    (h1 : P.underlying t1 = some .string) (h2 : P.underlying t2 = some .string) (m1 : n1 ≠ "_") (m2 : n2 ≠ "_") (hs : P.stoodInHeld kt = false)
    (p1 : ∀ (a b : Value) w, (part t1 #[a, b] 0).run P w = .ok a w) (p2 : ∀ (a b : Value) w, (part t2 #[a, b] 1).run P w = .ok b w) : TwoStr P kt where
  st := ⟨_, hu⟩
  check := fun w em a b => by
    have c1 : (Instr.checkKey em 9999 t1 (.string a)).run P w = .ok () w := run_checkKey h1 (by trivial) em 9998
    have c2 : (Instr.checkKey em 9999 t2 (.string b)).run P w = .ok () w := run_checkKey h2 (by trivial) em 9998
    unfold Instr.checkKey
    simp only [Sem.run_bind, run_underlying hu, Result.andThen]
    rw [← Array.forIn_toList]
    simp [m1, m2, p1, p2, c1, c2, Result.andThen]
  equal := fun w a b c d => by
    have hf : P.fieldsOf kt = #[{ name := n1, type := t1, offset := 0, embedded := e1, tag := g1, pkgPath := q1, byteOffset := b1 }, { name := n2, type := t2, offset := 1, embedded := e2, tag := g2, pkgPath := q2, byteOffset := b2 }] := by
      unfold Program.fieldsOf; rw [hu]
    have d1 : (Op.equalIn 9999 t1 (.string a) (.string c)).run P w = .ok (a.toList == c.toList) w := run_equalIn_string w 9998 t1 a c h1
    have d2 : (Op.equalIn 9999 t2 (.string b) (.string d)).run P w = .ok (b.toList == d.toList) w := run_equalIn_string w 9998 t2 b d h2
    unfold Op.equal Op.maxDepth
    rw [run_equalIn_struct w 9999 _ _ _ (by rw [hf]; exact hu) hs, hf]
    simp only [Op.eqFields, ne_eq, m1, m2, not_false_eq_true, if_true, Sem.run_bind, p1, Result.andThen, d1]
    cases ha : (a.toList == c.toList) <;> cases hb : (b.toList == d.toList) <;> simp [p2, d2, hb, Result.andThen]
theorem twoStr_iUID : TwoStr Tryz.prog 34 :=
  twoStr_of Tryz.underlying34 Tryz.underlying9 Tryz.underlying9 (by decide) (by decide) (by kernel_rfl) (fun _ _ _ => by kernel_rfl) (fun _ _ _ => by kernel_rfl)
end Go.Proofs.YtedgonoeeeiilaaGreatDoor
