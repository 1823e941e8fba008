/- The order of identifiers; sorted identifiers. -/
import Derived.Test.YtedgonoeeeiilaaGreatDoorJSq
import Derived.Shelf.SlSortCmp.NoneTotal
namespace Go.Proofs.YtedgonoeeeiilaaGreatDoor
open Go.RowKit Go.Sort Go.Shelf

def encUc (u : Uid) : List Value := [.string u.1, .string u.2]
def ltS (a b : Str) : Bool := Op.bytesLess a.toList b.toList
/-- impl.before -/
def cmpU (x y : Uid) : Int := if x.1 = y.1 then (if ltS x.2 y.2 = true then -1 else if x.2 = y.2 then 0 else 1) else if ltS x.1 y.1 = true then -1 else 1
def ltU (x y : Uid) : Prop := ltS x.1 y.1 = true ∨ x.1 = y.1 ∧ ltS x.2 y.2 = true
theorem ltS_iff (a b : Str) : ltS a b = true ↔ a.data.toList < b.data.toList := by
  unfold ltS
  rw [bytesLess_eq, decide_eq_true_iff, ByteArray.toList_eq, ByteArray.toList_eq]
theorem ltS_irrefl (a : Str) : ¬ ltS a a = true := by rw [ltS_iff]; exact List.lt_irrefl _
theorem ltS_trans {a b c : Str} (h : ltS a b = true) (k : ltS b c = true) : ltS a c = true := by rw [ltS_iff] at *; exact List.lt_trans h k
theorem ltS_tri (a b : Str) : ltS a b = true ∨ a = b ∨ ltS b a = true := by
  rw [ltS_iff, ltS_iff]
  by_cases h : a.data.toList < b.data.toList
  · exact .inl h
  · by_cases k : b.data.toList < a.data.toList
    · exact .inr (.inr k)
    · exact .inr (.inl (ByteArray.ext (Array.toList_inj.1 (List.le_antisymm (List.not_lt.1 k) (List.not_lt.1 h)))))
theorem ltU_irrefl (x : Uid) : ¬ ltU x x := fun h => h.elim (ltS_irrefl _) fun h => ltS_irrefl _ h.2
theorem ltU_trans {x y z : Uid} (h : ltU x y) (k : ltU y z) : ltU x z := by
  rcases h with h | ⟨h1, h2⟩
  · rcases k with k | ⟨k1, k2⟩
    · exact .inl (ltS_trans h k)
    · exact .inl (k1 ▸ h)
  · rcases k with k | ⟨k1, k2⟩
    · exact .inl (h1 ▸ k)
    · exact .inr ⟨h1.trans k1, ltS_trans h2 k2⟩
theorem ltU_tri (x y : Uid) : ltU x y ∨ x = y ∨ ltU y x := by
  obtain ⟨a, b⟩ := x
  obtain ⟨c, d⟩ := y
  rcases ltS_tri a c with h | rfl | h
  · exact .inl (.inl h)
  · rcases ltS_tri b d with h | rfl | h
    · exact .inl (.inr ⟨rfl, h⟩)
    · exact .inr (.inl rfl)
    · exact .inr (.inr (.inr ⟨rfl, h⟩))
  · exact .inr (.inr (.inl h))
theorem cmpU_lt (x y : Uid) : cmpU x y < 0 ↔ ltU x y := by
  unfold cmpU ltU
  by_cases h : x.1 = y.1
  · rw [if_pos h]
    by_cases h2 : ltS x.2 y.2 = true
    · simp [h2, h]
    · rw [if_neg h2]
      by_cases h3 : x.2 = y.2
      · simp [h3, h, ltS_irrefl]
      · rw [if_neg h3]
        have := ltS_irrefl y.1
        simp [h2, h, this]
  · rw [if_neg h]
    by_cases h2 : ltS x.1 y.1 = true
    · simp [h2]
    · simp [h2, h]
theorem ltOf_cmpU (x y : Uid) : ltOf cmpU x y = true ↔ ltU x y := by unfold ltOf; rw [decide_eq_true_iff]; exact cmpU_lt x y
theorem swoU : SWO (ltOf cmpU) where
  irrefl x := by rw [Bool.eq_false_iff, Ne, ltOf_cmpU]; exact ltU_irrefl x
  trans x y z h k := by rw [ltOf_cmpU] at *; exact ltU_trans h k
  ntrans x y z h k := by
    rw [Bool.eq_false_iff, Ne, ltOf_cmpU] at *
    intro hxz
    rcases ltU_tri x y with h1 | rfl | h1
    · exact h h1
    · exact k hxz
    · exact k (ltU_trans h1 hxz)
theorem totU (x y : Uid) (h : ltOf cmpU x y = false) (k : ltOf cmpU y x = false) : x = y := by
  rw [Bool.eq_false_iff, Ne, ltOf_cmpU] at *
  rcases ltU_tri x y with h1 | h1 | h1
  · exact (h h1).elim
  · exact h1
  · exact (k h1).elim

set_option maxHeartbeats 4000000 in
theorem implBefore_c (x y : Uid) (W : World) : Calls Tryz.prog 21 #[.agg #[.string x.1, .string x.2], .agg #[.string y.1, .string y.2]] W fun e w' => e = .returned (.int .i64 (cmpU x y)) ∧ ∃ q os', w' = grow (W.drewN q) os' := by
  obtain ⟨a, b⟩ := x
  obtain ⟨c, d⟩ := y
  dsimp only
  have hg : ∃ q os', (W.alloc (.cells #[.string a, .string b] 96)).alloc (.cells #[.string c, .string d] 96) = grow (W.drewN q) os' := ⟨0, _, by rw [alloc_eq_grow, alloc_eq_grow, grow_grow]; rfl⟩
  have HG := Lib.hid hg
  clear hg
  have hne : ∀ (p q : Str), (!p.toList == q.toList) = true → p ≠ q := fun p q h e => by subst e; simp at h
  have heq : ∀ (p q : Str), (!p.toList == q.toList) = false → p = q := fun p q h => toList_beq.1 (by simpa using h)
  have HE := Lib.hid (And.intro hne heq)
  clear hne heq
  go_enter Tryz.func21, Tryz.ntmps21
  go_wp2_with fail
  · go_ret
    refine ⟨?_, HG.out⟩
    show Ending.returned (Value.int .i64 (-1)) = _
    unfold cmpU ltS
    rw [if_neg (HE.out.1 a c (by assumption)), if_pos (by assumption)]
  · go_ret
    refine ⟨?_, HG.out⟩
    show Ending.returned (Value.int .i64 1) = _
    unfold cmpU ltS
    rw [if_neg (HE.out.1 a c (by assumption)), if_neg (Bool.eq_false_iff.1 (by assumption))]
  · go_ret
    refine ⟨?_, HG.out⟩
    show Ending.returned (Value.int .i64 (-1)) = _
    unfold cmpU ltS
    rw [if_pos (HE.out.2 a c (by assumption)), if_pos (by assumption)]
  · go_ret
    refine ⟨?_, HG.out⟩
    show Ending.returned (Value.int .i64 1) = _
    unfold cmpU ltS
    rw [if_pos (HE.out.2 a c (by assumption)), if_neg (Bool.eq_false_iff.1 (by assumption)), if_neg (HE.out.1 b d (by assumption))]
  · go_ret
    refine ⟨?_, HG.out⟩
    show Ending.returned (Value.int .i64 0) = _
    unfold cmpU ltS
    rw [if_pos (HE.out.2 a c (by assumption)), if_neg (Bool.eq_false_iff.1 (by assumption)), if_pos (HE.out.2 b d (by assumption))]

theorem keep_sortWorldK {α : Type} [Inhabited α] (enc : α → List Value) (k : Nat) (w : World) (blk off n : Nat) (d : Array α) (os : Array Obj) : Keep (· = blk) w (sortWorldK enc k w blk off n d os) := by
  unfold sortWorldK putRowK putRow mapBlock grow Sort.ahead
  refine ⟨rfl, rfl, rfl, by simp, fun i hi hn => ?_⟩
  show ((w.heap.modify blk _) ++ os)[i]? = w.heap[i]?
  rw [Array.getElem?_append_left (by simpa using hi), Array.getElem?_modify, if_neg (fun e => hn e.symm)]
theorem holdsU {w : World} {g : Nat} {cur : Array Value} {e : TypeId} {xs : List Uid} (hh : w.heap[g]? = some (.cells cur e (0, 0))) (ht : cur.toList.take (xs.length * 2) = uidCells xs) : HoldsK encUc 2 w g 0 xs.toArray := by
  intro j hj
  rw [size_flatK, List.size_toArray] at hj
  refine ⟨?_, frozen_cells hh _⟩
  rw [cell_cells hh, get_flatK _ _ _ _ (by rw [List.size_toArray]; exact hj)]
  have hi : j / 2 < xs.length := by omega
  have hd : xs.toArray[j / 2]! = xs[j / 2] := by simp [hi]
  have hx : xs[j / 2]? = some xs[j / 2] := List.getElem?_eq_getElem hi
  have e1 : (cur.toList.take (xs.length * 2))[j / 2 * 2 + j % 2]? = some ((encUc xs.toArray[j / 2]!)[j % 2]!) := by
    rw [ht, hd]
    refine uidCells_at xs _ _ _ _ hx ?_
    have h2 : j % 2 < 2 := Nat.mod_lt _ (by decide)
    unfold encUc
    match h : j % 2, h2 with
    | 0, _ => rfl
    | 1, _ => rfl
  have e2 : j / 2 * 2 + j % 2 = j := by omega
  rw [e2, List.getElem?_take_of_lt (by omega)] at e1
  simpa using e1
theorem uidsAt_holds {w : World} {M : Nat → Prop} {g cap : Nat} {xs : List Uid} (h : HoldsK encUc 2 w g 0 xs.toArray) (hM : ¬ M g) : UidsAt w M xs (.slice (some ⟨g, 0, none⟩) xs.length cap) := by
  refine ⟨_, cap, rfl, .inr ⟨g, 0, rfl, hM, fun i hi => ⟨rfl, fun q v hq => ?_⟩⟩⟩
  have hq2 : q < 2 := by
    rcases q with _ | _ | q
    · omega
    · omega
    · cases hq
  have := (h.cell (i := i) (c := q) (by simpa using hi) hq2).1
  rw [this]
  have hd : xs.toArray[i]! = xs[i] := by simp [hi]
  have hg : xs.getD i (⟨#[]⟩, ⟨#[]⟩) = xs[i] := by rw [List.getD_eq_getElem?_getD, List.getElem?_eq_getElem hi]; rfl
  dsimp only at hq
  rw [hg] at hq
  rw [hd]
  unfold encUc
  rcases q with _ | _ | q
  · exact hq
  · exact hq
  · omega
end Go.Proofs.YtedgonoeeeiilaaGreatDoor
