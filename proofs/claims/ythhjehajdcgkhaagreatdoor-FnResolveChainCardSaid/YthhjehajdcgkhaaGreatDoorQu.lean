/- A queue: a slice of the call's own, of cells, that is cut at its head and appended to at its end. -/
import Derived.Test.YthhjehajdcgkhaaGreatDoorOut
import Derived.Maps.AppendAt
namespace Go.Proofs.YthhjehajdcgkhaaGreatDoor
open Go.RowKit

/-- A queue's cells. -/
def QIs (w : World) (base : Nat) (E : TypeId) (v : Value) (xs : List Value) : Prop :=
  ∃ o c, v = .slice o xs.length c ∧ xs.length ≤ c ∧ c ≤ maxLen ∧ ((o = none ∧ c = 0) ∨ ∃ g off cur, o = some ⟨g, off, none⟩ ∧ base ≤ g ∧ w.heap[g]? = some (.cells cur E (0, 0)) ∧ off + c ≤ cur.size ∧ ∀ j u, xs[j]? = some u → cur[off + j]? = some u)
theorem QIs.nil (w : World) (base : Nat) (E : TypeId) : QIs w base E (.slice none 0 0) [] := ⟨none, 0, rfl, Nat.le_refl _, by simp, .inl ⟨rfl, rfl⟩⟩
theorem QIs.keep {w w' : World} {M : Nat → Prop} {base : Nat} {E : TypeId} {v : Value} {xs : List Value} (h : QIs w base E v xs) (k : Keep M w w') (hM : ∀ i, base ≤ i → ¬ M i) : QIs w' base E v xs := by
  obtain ⟨o, c, hv, h1, h2, h⟩ := h
  refine ⟨o, c, hv, h1, h2, ?_⟩
  rcases h with h | ⟨g, off, cur, ho, hg, hh, r⟩
  · exact .inl h
  · exact .inr ⟨g, off, cur, ho, hg, k.heap hh (hM g hg), r⟩
theorem add_off (g off j : Nat) : (⟨g, off, none⟩ : Addr).add j = ⟨g, off + j, none⟩ := by unfold Addr.add; split <;> simp_all
theorem QIs.cells {w : World} {base : Nat} {E : TypeId} {v : Value} {xs : List Value} (h : QIs w base E v xs) {g off n c : Nat} (hv : v = .slice (some ⟨g, off, none⟩) n c) : ∀ j u, xs[j]? = some u → w.cell? ⟨g, off + j, none⟩ = some u := by
  intro j u hu
  obtain ⟨o, c', hv', _, _, h⟩ := h
  rw [hv] at hv'
  simp only [Value.slice.injEq] at hv'
  obtain ⟨rfl, _, _⟩ := hv'
  rcases h with ⟨h, _⟩ | ⟨g', off', cur, ho, _, hh, _, hc⟩
  · cases h
  · simp only [Option.some.injEq, Addr.mk.injEq, and_true] at ho
    obtain ⟨rfl, rfl⟩ := ho
    rw [cell_cells hh]; exact hc j u hu
/-- The first cell is left. -/
theorem QIs.pop {w : World} {base : Nat} {E : TypeId} {x : Value} {xs : List Value} {o : Option Addr} {n c : Nat} (h : QIs w base E (.slice o n c) (x :: xs)) :
    ∃ g off, o = some ⟨g, off, none⟩ ∧ n = xs.length + 1 ∧ xs.length + 1 ≤ c ∧ c ≤ maxLen ∧ w.cell? ⟨g, off, none⟩ = some x ∧
      ∃ A, (if c = 1 then some (⟨g, off, none⟩ : Addr) else some ⟨g, off + 1, none⟩) = some A ∧ QIs w base E (.slice (some A) xs.length (c - 1)) xs := by
  have hh := h
  obtain ⟨o', c', hv, h1, h2, h⟩ := h
  simp only [Value.slice.injEq, List.length_cons] at hv
  obtain ⟨rfl, rfl, rfl⟩ := hv
  simp only [List.length_cons] at h1
  rcases h with ⟨_, h⟩ | ⟨g, off, cur, rfl, hg, hb, hs, hc⟩
  · omega
  · refine ⟨g, off, rfl, rfl, h1, h2, hh.cells rfl 0 x rfl, ?_⟩
    by_cases h3 : c = 1
    · have hx : xs = [] := List.eq_nil_of_length_eq_zero (by omega)
      exact ⟨_, if_pos h3, _, _, rfl, by omega, by omega, .inr ⟨g, off, cur, rfl, hg, hb, by omega, fun j u hu => by rw [hx] at hu; simp at hu⟩⟩
    · refine ⟨_, if_neg h3, _, _, rfl, by omega, by omega, .inr ⟨g, off + 1, cur, rfl, hg, hb, by omega, fun j u hu => ?_⟩⟩
      have := hc (j + 1) u (by simpa using hu)
      rw [show off + 1 + j = off + (j + 1) by omega]; exact this

theorem run_append_room_off {P : Program} (w : World) (t ty e : TypeId) (i : TypeInfo) (ht : P.underlying t = some (.slice e)) (hi : P.info? e = some i) (h1s : i.size = 1)
    (g off sLen sCap : Nat) (cur : Array Value) (hg : w.heap[g]? = some (.cells cur e (0, 0))) (a : Addr) (c : Nat) (u : Value) (hu : w.cell? a = some u) (h1 : u.oneCell' = true)
    (hroom : sLen + 1 ≤ sCap) (hfit : off + sLen + 1 ≤ cur.size) :
    (Builtin.append_ #[t, t] ty #[.slice (some ⟨g, off, none⟩) sLen sCap, .slice (some a) 1 c]).run P w =
      .ok (.slice (some ⟨g, off, none⟩) (sLen + 1) sCap) (w.setRow g (cur.toList.take (off + sLen) ++ [u] ++ cur.toList.drop (off + sLen + 1)).toArray) := by
  have ha0 : a.add 0 = a := by
    obtain ⟨b, o, sp⟩ := a
    unfold Addr.add; split <;> simp_all
  have hf := run_firstCells_some (P := P) w 1 1 a 1 c [u] rfl (fun j v hj => by
    rcases j with _ | j
    · simp only [List.getElem?_cons_zero, Option.some.injEq] at hj; subst hj; rw [ha0]; exact hu
    · simp at hj)
  have hst := run_storeCells_at P g (off + sLen) e [u] 0 cur w hg (by simpa using hfit) (by simpa using h1)
  simp only [Nat.add_zero, List.length_cons, List.length_nil, Nat.zero_add] at hst
  simp [Builtin.append_, run_underlying ht, sizeOf, typeInfo, hi, h1s, Builtin.lenOf, hroom, hf, add_off, hst]

theorem run_append_q {P : Program} (w : World) (t ty : TypeId) (base : Nat) (e : TypeId) (i : TypeInfo) (z : Value) (bytes : Nat) (ht : P.underlying t = some (.slice e)) (hi : P.info? e = some i) (hz : i.zero = some z)
    (hsize : i.size = 1) (hby : i.bytes = bytes) (hzs : z.cells.size = 1) (v : Value) (xs : List Value) (hq : QIs w base e v xs) (ad : Addr) (c : Nat) (u : Value) (hu : w.cell? ad = some u) (h1 : u.oneCell' = true)
    (h63 : xs.length + 1 ≤ maxLen) (hbytes : (xs.length + 1) * bytes ≤ 140737488355328) (hbase : base ≤ w.heap.size) :
    ∃ o c' w', (Builtin.append_ #[t, t] ty #[v, .slice (some ad) 1 c]).run P w = .ok (.slice o (xs.length + 1) c') w' ∧ QIs w' base e (.slice o (xs.length + 1) c') (xs ++ [u]) ∧ Keep (fun i => base ≤ i) w w' := by
  have hnews : ∀ j v, [u][j]? = some v → w.cell? (ad.add j) = some v := fun j v hj => by
    rcases j with _ | j
    · simp only [List.getElem?_cons_zero, Option.some.injEq] at hj
      subst hj
      have : ad.add 0 = ad := by
        obtain ⟨b, o, sp⟩ := ad
        unfold Addr.add; split <;> simp_all
      rw [this]; exact hu
    · simp at hj
  have hsmall : xs.length + 1 ≤ 9223372036854775807 := by simp only [maxLen] at h63; omega
  subst hby
  obtain ⟨o, cp, rfl, hlc, hcm, h⟩ := hq
  have made : ∀ old, (∃ cp', cp' = grownCap w (xs.length + 1) old e) → QIs (w.drew.alloc (.cells (xs.toArray ++ [u].toArray ++ Builtin.zeroCells z.cells (grownCap w (xs.length + 1) old e - (xs.length + 1))) e)) base e (.slice (some ⟨w.heap.size, 0, none⟩) (xs.length + 1) (grownCap w (xs.length + 1) old e)) (xs ++ [u]) ∧
      Keep (fun i => base ≤ i) w (w.drew.alloc (.cells (xs.toArray ++ [u].toArray ++ Builtin.zeroCells z.cells (grownCap w (xs.length + 1) old e - (xs.length + 1))) e)) := by
    intro old _
    have hge := grownCap_ge w (xs.length + 1) old e
    have hcm : grownCap w (xs.length + 1) old e ≤ maxLen := grownCap_le_maxLen w (xs.length + 1) old e h63
    refine ⟨⟨_, _, by simp, by simpa using hge, hcm, .inr ⟨w.heap.size, 0, _, rfl, hbase, heap_alloc_new w.drew _, ?_, fun j v hj => ?_⟩⟩, (Keep.drew w _).then (Keep.alloc _ _ _)⟩
    · simp only [Array.size_append, List.size_toArray, size_zeroCells, hzs, List.length_cons, List.length_nil]
      omega
    · rw [Nat.zero_add]
      have hj' : j < (xs ++ [u]).length := (List.getElem?_eq_some_iff.1 hj).1
      rw [Array.getElem?_append_left (by simpa using hj')]
      simpa using hj
  rcases h with ⟨rfl, rfl⟩ | ⟨g, off, cur, rfl, hbg, hg, hs, hc⟩
  · have hx : xs = [] := List.eq_nil_of_length_eq_zero (by omega)
    subst hx
    have hr := run_append_nil (P := P) w t ty e i z ht hi hz ad 1 c [u] (by rw [hsize]; rfl) hnews (by omega) (by omega) (by simp only [List.length_nil, Nat.zero_add] at hbytes; omega)
    have hgr := made 0 ⟨_, rfl⟩
    simp only [List.length_nil, Nat.zero_add, List.nil_append, Array.empty_append] at hgr ⊢
    exact ⟨_, _, _, hr, hgr.1, hgr.2⟩
  · by_cases hroom : xs.length + 1 ≤ cp
    · have hr := run_append_room_off (P := P) w t ty e i ht hi hsize g off xs.length cp cur hg ad c u hu h1 hroom (by omega)
      refine ⟨_, _, _, hr, ⟨_, _, by simp, by simpa using hroom, hcm, .inr ⟨g, off, _, rfl, hbg, setRow_heap w g cur _ e _ hg, ?_, fun j v hj => ?_⟩⟩, ?_⟩
      · simp only [List.size_toArray, List.length_append, List.length_take, List.length_drop, Array.length_toList, List.length_cons, List.length_nil]
        omega
      · have hj' : j < (xs ++ [u]).length := (List.getElem?_eq_some_iff.1 hj).1
        simp only [List.length_append, List.length_cons, List.length_nil] at hj'
        simp only [List.getElem?_toArray]
        rcases Nat.lt_or_ge j xs.length with h2 | h2
        · rw [List.getElem?_append_left h2] at hj
          have := hc j v hj
          rw [List.append_assoc, List.getElem?_append_left (by simp; omega), List.getElem?_take, if_pos (by omega)]
          simpa using this
        · have hj0 : j = xs.length := by omega
          subst hj0
          rw [List.getElem?_append_right (by omega)] at hj
          simp only [Nat.sub_self, List.getElem?_cons_zero, Option.some.injEq] at hj
          subst hj
          rw [List.append_assoc, List.getElem?_append_right (by simp; omega)]
          simp only [List.length_take, Array.length_toList]
          rw [show off + xs.length - min (off + xs.length) cur.size = 0 by omega]; rfl
      · exact Keep.grown (row := some g) ⟨rfl, rfl, rfl, by simp, fun k _ hk => setRow_other w g k _ (fun e => hk (by simp [e]))⟩ fun i hi _ => by cases hi; exact hbg
    · have holds : ∀ j v, xs[j]? = some v → w.cell? ((⟨g, off, none⟩ : Addr).add j) = some v := fun j v hj => by
        rw [add_off, cell_cells hg]; exact hc j v hj
      have hr := run_append_grow (P := P) w t ty e i z ht hi hz ⟨g, off, none⟩ xs.length cp xs (by rw [hsize]; omega) holds ad 1 c [u] (by rw [hsize]; rfl) hnews (by omega) (by omega) (growslice_fits (by omega) hbytes)
      have hgr := made cp ⟨_, rfl⟩
      exact ⟨_, _, _, hr, hgr.1, hgr.2⟩

theorem wpList_append_q {P : Program} {ops : Array Oper} {rest : List Oper} {o : Oper} {a : Act} {w : World} {Q : Exit → Act → World → Prop} (hgd : o.guard = none) (s x : Operand) (t : TypeId)
    (ho : o.op = .call { callee := .builtin .append, args := #[s, x], argTypes := #[t, t] })
    (base : Nat) (e : TypeId) (i : TypeInfo) (z : Value) (bytes : Nat) (ht : P.underlying t = some (.slice e)) (hi : P.info? e = some i) (hz : i.zero = some z)
    (hsize : i.size = 1) (hby : i.bytes = bytes) (hzs : z.cells.size = 1) (v : Value) (xs : List Value) (hs : a.eval s = v) (hq : QIs w base e v xs)
    (ad : Addr) (c : Nat) (u : Value) (hx : a.eval x = .slice (some ad) 1 c) (hu : w.cell? ad = some u) (h1 : u.oneCell' = true)
    (h63 : xs.length + 1 ≤ maxLen) (hbytes : (xs.length + 1) * bytes ≤ 140737488355328) (hbase : base ≤ w.heap.size)
    (h : ∀ o' c' w', QIs w' base e (.slice o' (xs.length + 1) c') (xs ++ [u]) → Keep (fun i => base ≤ i) w w' → wpList P ops Q rest (a.put o.dst (.slice o' (xs.length + 1) c')) w') : wpList P ops Q (o :: rest) a w :=
  wpList_plain hgd fun K hK => by
    obtain ⟨o', c', w', hr, h2, h3⟩ := run_append_q (P := P) w t o.type base e i z bytes ht hi hz hsize hby hzs v xs hq ad c u hu h1 h63 hbytes hbase
    unfold Oper.wp execOp
    simp only [ho, resolve, invoke, builtin, Sem.run_bind, Sem.run_pure, Result.andThen_ok, List.map_toArray, List.map_cons, List.map_nil, hs, hx, hr]
    exact hK _ _ (h o' c' w' h2 h3)
end Go.Proofs.YthhjehajdcgkhaaGreatDoor
