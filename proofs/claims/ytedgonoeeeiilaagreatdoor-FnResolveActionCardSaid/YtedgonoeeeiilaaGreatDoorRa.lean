/- The walk of the function that resolves actions. -/
import Derived.Test.YtedgonoeeeiilaaGreatDoorUs
import Derived.Deep.DeepCutAuto
import Derived.Deep.CutRange
namespace Go.Proofs.YtedgonoeeeiilaaGreatDoor
open Go.RowKit

/-- An action's identifier. -/
def actU (ns n : Str) : Uid := (actionTy ns, n)
theorem actU_inj {ns a b : Str} (h : actU ns a = actU ns b) : a = b := by unfold actU at h; exact (Prod.mk.inj h).2
def uidCells (xs : List Uid) : List Value := xs.flatMap fun u => [.string u.1, .string u.2]
theorem uidCells_snoc (xs : List Uid) (u : Uid) : uidCells (xs ++ [u]) = uidCells xs ++ [.string u.1, .string u.2] := by simp [uidCells]
theorem uidCells_cons (xs : List Uid) (u : Uid) : uidCells (u :: xs) = .string u.1 :: .string u.2 :: uidCells xs := by simp [uidCells]
theorem uidCells_len : ∀ (xs : List Uid), (uidCells xs).length = xs.length * 2
  | [] => rfl
  | u :: xs => by rw [uidCells_cons, List.length_cons, List.length_cons, uidCells_len xs, List.length_cons]; omega
theorem uidCells_at : ∀ (xs : List Uid) (i q : Nat) (u : Uid) (v : Value), xs[i]? = some u → ([.string u.1, .string u.2] : List Value)[q]? = some v → (uidCells xs)[i * 2 + q]? = some v
  | [], i, q, u, v, hi, _ => by simp at hi
  | x :: xs, 0, q, u, v, hi, hq => by
    obtain rfl : x = u := by simpa using hi
    rw [uidCells_cons]
    rcases q with _ | _ | q
    · exact hq
    · exact hq
    · cases hq
  | x :: xs, i + 1, q, u, v, hi, hq => by
    rw [uidCells_cons, show (i + 1) * 2 + q = (i * 2 + q) + 1 + 1 by omega, List.getElem?_cons_succ, List.getElem?_cons_succ]
    exact uidCells_at xs i q u v (by simpa using hi) hq
theorem ownsRow_uids {w : World} {M : Nat → Prop} {base : Nat} {e : TypeId} {v : Value} {n : Nat} {l : List Uid} (h : w.ownsRow base e 2 v n (uidCells l)) (hM : ∀ i, M i → i < base) : l.length = n ∧ UidsAt w M l v := by
  obtain ⟨h1, h2⟩ := h
  have hl : l.length = n := by rw [uidCells_len] at h1; omega
  refine ⟨hl, ?_⟩
  rcases h2 with ⟨rfl, rfl⟩ | ⟨g, cap, cur, rfl, hb, hh, hc, _, hs, ht⟩
  · exact ⟨none, 0, by rw [hl], .inl hl⟩
  · refine ⟨_, cap, by rw [hl], .inr ⟨g, 0, rfl, fun h => by have := hM g h; omega, fun i hi => ⟨rfl, fun q v hq => ?_⟩⟩⟩
    rw [cell_cells hh]
    have hi2 : i < n := by omega
    have hq2 : q < 2 := by
      rcases q with _ | _ | q
      · omega
      · omega
      · cases hq
    have hg : l[i]? = some (l.getD i (⟨#[]⟩, ⟨#[]⟩)) := by rw [List.getD_eq_getElem?_getD, List.getElem?_eq_getElem hi]; rfl
    have e1 : (cur.toList.take (n * 2))[i * 2 + q]? = some v := by rw [ht]; exact uidCells_at l i q _ v hg hq
    rw [List.getElem?_take_of_lt (by omega)] at e1
    simpa using e1
theorem set9 (w : World) (b : Nat) (T : TypeId) (v0 v1 v2 v3 v4 v5 v6 v7 v8 : Value) {a0 a1 a2 a3 a4 a5 a6 a7 a8 : Value} (h : w.heap[b]? = some (.cells #[a0, a1, a2, a3, a4, a5, a6, a7, a8] T (0, 0))) :
    ∃ wz, wz = (((((((((w.setCell ⟨b, 0, none⟩ v0).setCell ⟨b, 1, none⟩ v1).setCell ⟨b, 2, none⟩ v2).setCell ⟨b, 3, none⟩ v3).setCell ⟨b, 4, none⟩ v4).setCell ⟨b, 5, none⟩ v5).setCell ⟨b, 6, none⟩ v6).setCell ⟨b, 7, none⟩ v7).setCell ⟨b, 8, none⟩ v8) ∧ Keep (· = b) w wz ∧ wz.heap[b]? = some (.cells #[v0, v1, v2, v3, v4, v5, v6, v7, v8] T (0, 0)) := by
  have kst : ∀ (u : World) (i : Nat) (v : Value), Keep (· = b) u (u.setCell ⟨b, i, none⟩ v) := fun u i v => Keep.setCell _ _ _ (fun _ => rfl)
  have kj : ∀ {u v x : World}, Keep (· = b) u v → Keep (· = b) v x → Keep (· = b) u x := fun h1 h2 => h1.trans h2 (fun _ _ h => h) (fun _ _ h => h)
  have h0 : (w.setCell ⟨b, 0, none⟩ v0).heap[b]? = some (.cells #[v0, a1, a2, a3, a4, a5, a6, a7, a8] T (0, 0)) := setCell_cells h 0 v0
  have h1 : ((w.setCell ⟨b, 0, none⟩ v0).setCell ⟨b, 1, none⟩ v1).heap[b]? = some (.cells #[v0, v1, a2, a3, a4, a5, a6, a7, a8] T (0, 0)) := setCell_cells h0 1 v1
  have h2 : (((w.setCell ⟨b, 0, none⟩ v0).setCell ⟨b, 1, none⟩ v1).setCell ⟨b, 2, none⟩ v2).heap[b]? = some (.cells #[v0, v1, v2, a3, a4, a5, a6, a7, a8] T (0, 0)) := setCell_cells h1 2 v2
  have h3 : ((((w.setCell ⟨b, 0, none⟩ v0).setCell ⟨b, 1, none⟩ v1).setCell ⟨b, 2, none⟩ v2).setCell ⟨b, 3, none⟩ v3).heap[b]? = some (.cells #[v0, v1, v2, v3, a4, a5, a6, a7, a8] T (0, 0)) := setCell_cells h2 3 v3
  have h4 : (((((w.setCell ⟨b, 0, none⟩ v0).setCell ⟨b, 1, none⟩ v1).setCell ⟨b, 2, none⟩ v2).setCell ⟨b, 3, none⟩ v3).setCell ⟨b, 4, none⟩ v4).heap[b]? = some (.cells #[v0, v1, v2, v3, v4, a5, a6, a7, a8] T (0, 0)) := setCell_cells h3 4 v4
  have h5 : ((((((w.setCell ⟨b, 0, none⟩ v0).setCell ⟨b, 1, none⟩ v1).setCell ⟨b, 2, none⟩ v2).setCell ⟨b, 3, none⟩ v3).setCell ⟨b, 4, none⟩ v4).setCell ⟨b, 5, none⟩ v5).heap[b]? = some (.cells #[v0, v1, v2, v3, v4, v5, a6, a7, a8] T (0, 0)) := setCell_cells h4 5 v5
  have h6 : (((((((w.setCell ⟨b, 0, none⟩ v0).setCell ⟨b, 1, none⟩ v1).setCell ⟨b, 2, none⟩ v2).setCell ⟨b, 3, none⟩ v3).setCell ⟨b, 4, none⟩ v4).setCell ⟨b, 5, none⟩ v5).setCell ⟨b, 6, none⟩ v6).heap[b]? = some (.cells #[v0, v1, v2, v3, v4, v5, v6, a7, a8] T (0, 0)) := setCell_cells h5 6 v6
  have h7 : ((((((((w.setCell ⟨b, 0, none⟩ v0).setCell ⟨b, 1, none⟩ v1).setCell ⟨b, 2, none⟩ v2).setCell ⟨b, 3, none⟩ v3).setCell ⟨b, 4, none⟩ v4).setCell ⟨b, 5, none⟩ v5).setCell ⟨b, 6, none⟩ v6).setCell ⟨b, 7, none⟩ v7).heap[b]? = some (.cells #[v0, v1, v2, v3, v4, v5, v6, v7, a8] T (0, 0)) := setCell_cells h6 7 v7
  have h8 : (((((((((w.setCell ⟨b, 0, none⟩ v0).setCell ⟨b, 1, none⟩ v1).setCell ⟨b, 2, none⟩ v2).setCell ⟨b, 3, none⟩ v3).setCell ⟨b, 4, none⟩ v4).setCell ⟨b, 5, none⟩ v5).setCell ⟨b, 6, none⟩ v6).setCell ⟨b, 7, none⟩ v7).setCell ⟨b, 8, none⟩ v8).heap[b]? = some (.cells #[v0, v1, v2, v3, v4, v5, v6, v7, v8] T (0, 0)) := setCell_cells h7 8 v8
  exact ⟨_, rfl, kj (kj (kj (kj (kj (kj (kj (kj (kst w 0 v0) (kst _ 1 v1)) (kst _ 2 v2)) (kst _ 3 v3)) (kst _ 4 v4)) (kst _ 5 v5)) (kst _ 6 v6)) (kst _ 7 v7)) (kst _ 8 v8), h8⟩
theorem cells9 {w : World} {b : Nat} {T : TypeId} {a0 a1 a2 a3 a4 a5 a6 a7 a8 : Value} (h : w.heap[b]? = some (.cells #[a0, a1, a2, a3, a4, a5, a6, a7, a8] T (0, 0))) :
    w.cell? ⟨b, 0, none⟩ = some a0 ∧ w.cell? ⟨b, 1, none⟩ = some a1 ∧ w.cell? ⟨b, 2, none⟩ = some a2 ∧ w.cell? ⟨b, 3, none⟩ = some a3 ∧ w.cell? ⟨b, 4, none⟩ = some a4 ∧ w.cell? ⟨b, 5, none⟩ = some a5 ∧ w.cell? ⟨b, 6, none⟩ = some a6 ∧ w.cell? ⟨b, 7, none⟩ = some a7 ∧ w.cell? ⟨b, 8, none⟩ = some a8 ∧ w.frozen? ⟨b, 0, none⟩ = false ∧ w.frozen? ⟨b, 1, none⟩ = false ∧ w.frozen? ⟨b, 2, none⟩ = false ∧ w.frozen? ⟨b, 3, none⟩ = false ∧ w.frozen? ⟨b, 4, none⟩ = false ∧ w.frozen? ⟨b, 5, none⟩ = false ∧ w.frozen? ⟨b, 6, none⟩ = false ∧ w.frozen? ⟨b, 7, none⟩ = false ∧ w.frozen? ⟨b, 8, none⟩ = false :=
  ⟨by rw [cell_cells h]; rfl, by rw [cell_cells h]; rfl, by rw [cell_cells h]; rfl, by rw [cell_cells h]; rfl, by rw [cell_cells h]; rfl, by rw [cell_cells h]; rfl, by rw [cell_cells h]; rfl, by rw [cell_cells h]; rfl, by rw [cell_cells h]; rfl, frozen_cells h 0, frozen_cells h 1, frozen_cells h 2, frozen_cells h 3, frozen_cells h 4, frozen_cells h 5, frozen_cells h 6, frozen_cells h 7, frozen_cells h 8⟩

theorem heap_alloc1 {w w' : World} {O : Obj} (k : Keep NoB (w.alloc O) w') : w'.heap[w.heap.size]? = some O := k.heap (MapKept.heap_alloc _ _).1 (NoB.not _)
theorem heap_alloc2 {w w' : World} {O : Obj} (k : Keep NoB (w.alloc O).drew w') : w'.heap[w.heap.size]? = some O := k.heap (MapKept.heap_alloc w O).1 (NoB.not _)
theorem heap_again {w w' : World} {O : Obj} {d : Nat} (k : Keep NoB w w') (h : w.heap[d]? = some O) : w'.heap[d]? = some O := k.heap h (NoB.not _)
theorem keepLate {wA w : World} {d i : Nat} {v : Value} (h : Keep NoB wA w) (hd : wA.heap.size ≤ d) : Keep NoB wA (w.setCell ⟨d, i, none⟩ v) :=
  h.trans (Keep.setCell (M := (· = d)) _ _ _ (fun _ => rfl)) (fun _ _ h => h) (fun i hi h => by omega)

def ActsOut (MR : Nat → Prop) (oA : Nat) (ns : Str) (la : List (Str × Value)) (RA : Str → Option (Option RAct)) (R0 : List (Uid × RAct)) (e : Ending) (w' : World) : Prop :=
  ((∃ a, e = .returned (.iface 296 (.pointer (some a)))) ∧ ∃ p ∈ la, RA p.1 = some none) ∨
  (e = .returned .nilIface ∧ (∀ p ∈ la, ∃ x, RA p.1 = some (some x)) ∧ ∃ R', Added (actU ns) (fun n => ((RA n).getD none).getD default) (la.map (·.1)) R0 R' ∧ ∃ lv, KMap encU w' oA lv ∧ MapRel (RActIs w' MR) R' lv)

/-- The groups: the first j have been told. -/
def ParRow (ns : Str) (_w' w2 : World) (wb : World) (ps : List Uid) (sl : Value) (j : Nat) : Prop :=
  Keep NoB wb w2 ∧ w2.ownsRow wb.heap.size 96 2 sl j (uidCells ((ps.take j).map (parOf ns)))
/-- What is laid for a resolved action. -/
structure Laid (wb wx : World) (u : Uid) (ps : List Uid) (an : Option Nat) (d m : Nat) (tp : Value) : Prop where
  keep : Keep NoB wb wx
  row : wx.heap[d]? = some (.cells #[.string u.1, .string u.2, .map (some m), .map none, .int .u64 0, .map none, .int .u64 0, .map an, tp] 111 (0, 0))
  set : ∃ l, KMap encU wx m l ∧ ∀ x, x ∈ l.map (·.1) ↔ x ∈ ps
  hd : wb.heap.size ≤ d
  hm : wb.heap.size ≤ m
/-- Names that a loop resolves into a slice of the block a0. -/
def ToRow (V : Env) (ns : Str) (wS w2 : World) (a0 : Nat) (l : List Str) (f : Value → Array Value) (j : Nat) : Prop :=
  Keep (· = a0) wS w2 ∧ ∃ sl r, w2.heap[a0]? = some (.cells (f sl) 116 (0, 0)) ∧ w2.ownsRow wS.heap.size 67 1 sl j (r.map Value.string) ∧ (l.take j).mapM (entRef V ns) = some r

theorem resAct_inv {V : Env} {n : Nat} {ns nm : Str} {a : AAct} {res : Option RAct} (h : resAct V n ns nm a = some res) :
    ∃ t, resTo V n ns a.app = some t ∧ res = t.map fun x => ⟨actU ns nm, a.parents.map (parOf ns), x⟩ := by
  unfold resAct at h
  simp only [Option.map_eq_some_iff] at h
  obtain ⟨t, h1, h2⟩ := h
  exact ⟨t, h1, h2.symm⟩
theorem resTo_inv {V : Env} {n : Nat} {ns : Str} {x : List Str × List Str × Option ATy} {t : Option (Option (List Str × List Str × List (Str × RTy × Bool)))} (h : resTo V n ns (some x) = some t) :
    ∃ c, resCtx V n ns x.2.2 = some c ∧ t = (x.1.mapM (entRef V ns)).bind fun ps => (x.2.1.mapM (entRef V ns)).bind fun rs => c.map fun l => some (ps, rs, l) := by
  unfold resTo at h
  simp only [Option.map_eq_some_iff] at h
  obtain ⟨c, h1, h2⟩ := h
  exact ⟨c, h1, h2.symm⟩

theorem Laid.late {wr w4 : World} {u : Uid} {P : List Uid} {an : Option Nat} {m : Nat} {lm : List (Uid × Value)} (k : Keep NoB wr w4) (hkm : KMap encU w4 m lm) (hl : ∀ y, y ∈ lm.map (·.1) ↔ y ∈ P) (hm : wr.heap.size ≤ m) :
    Laid wr (w4.alloc (.cells #[.string u.1, .string u.2, .map (some m), .map none, .int .u64 0, .map none, .int .u64 0, .map an, .pointer none] 111)) u P an w4.heap.size m (.pointer none) :=
  ⟨k.then (Keep.alloc _ _ _), (MapKept.heap_alloc _ _).1, ⟨lm, hkm.keep (Keep.alloc _ _ NoB) (NoB.not _), hl⟩, k.size, hm⟩
theorem Laid.early {wr w4 : World} {u : Uid} {P : List Uid} {an : Option Nat} {d m : Nat} {lm : List (Uid × Value)} {a0 a1 a2 a3 a4 a5 a6 a7 a8 : Value} (hd : w4.heap[d]? = some (.cells #[a0, a1, a2, a3, a4, a5, a6, a7, a8] 111 (0, 0))) (hle : wr.heap.size ≤ d) (k : Keep NoB wr w4) (hkm : KMap encU w4 m lm) (hl : ∀ y, y ∈ lm.map (·.1) ↔ y ∈ P) (hm : wr.heap.size ≤ m) :
    Laid wr (((((((((w4.setCell ⟨d, 0, none⟩ (.string u.1)).setCell ⟨d, 1, none⟩ (.string u.2)).setCell ⟨d, 2, none⟩ (.map (some m))).setCell ⟨d, 3, none⟩ (.map none)).setCell ⟨d, 4, none⟩ (.int .u64 0)).setCell ⟨d, 5, none⟩ (.map none)).setCell ⟨d, 6, none⟩ (.int .u64 0)).setCell ⟨d, 7, none⟩ (.map an)).setCell ⟨d, 8, none⟩ (.pointer none)) u P an d m (.pointer none) := by
  obtain ⟨wz, hwz, ks, hz⟩ := set9 w4 d 111 (.string u.1) (.string u.2) (.map (some m)) (.map none) (.int .u64 0) (.map none) (.int .u64 0) (.map an) (.pointer none) hd
  have hne : d ≠ m := cell_ne_map (show w4.cell? ⟨d, 0, none⟩ = some a0 by rw [cell_cells hd]; rfl) hkm
  rw [← hwz]
  exact ⟨k.trans ks (fun _ _ h => h) (fun i hi h => by omega), hz, ⟨lm, hkm.keep ks (fun h => hne h.symm), hl⟩, hle, hm⟩
theorem Laid.keepM {wr wx w2 : World} {u : Uid} {P : List Uid} {an : Option Nat} {d m : Nat} {tp : Value} {M : Nat → Prop} (h : Laid wr wx u P an d m tp) (k : Keep M wx w2) (hd : ¬ M d) (hm : ¬ M m) (hM : ∀ i, i < wr.heap.size → ¬ M i) : Laid wr w2 u P an d m tp := by
  obtain ⟨l, h1, h2⟩ := h.set
  exact ⟨h.keep.trans k (fun _ _ h => h) (fun i hi h => hM i hi h), k.heap h.row hd, ⟨l, h1.keep k hm, h2⟩, h.hd, h.hm⟩
theorem Laid.put {wr wx : World} {u : Uid} {P : List Uid} {an : Option Nat} {d m : Nat} {tp : Value} (h : Laid wr wx u P an d m tp) (v : Value) : Laid wr (wx.setCell ⟨d, 8, none⟩ v) u P an d m v := by
  obtain ⟨l, h1, h2⟩ := h.set
  have ks := Keep.setCell (M := (· = d)) wx ⟨d, 8, none⟩ v (fun _ => rfl)
  have hne : d ≠ m := cell_ne_map (show wx.cell? ⟨d, 0, none⟩ = some (.string u.1) by rw [cell_cells h.row]; rfl) h1
  have hd := h.hd
  exact ⟨h.keep.trans ks (fun _ _ h => h) (fun i hi h => by omega), setCell_cells h.row 8 v, ⟨l, h1.keep ks (fun h => hne h.symm), h2⟩, h.hd, h.hm⟩
theorem ToRow.step {V : Env} {ns : Str} {wS w4 : World} {a0 j i : Nat} {l r : List Str} {f : Value → Array Value} {sl v' : Value} {y : Str} (k : Keep (· = a0) wS w4) (ha0 : a0 < wS.heap.size) (hrow : w4.heap[a0]? = some (.cells (f sl) 116 (0, 0))) (hset : ∀ v, (f sl).setIfInBounds i v = f v)
    (hown : w4.ownsRow wS.heap.size 67 1 v' (j + 1) (r.map Value.string ++ [.string y])) (hm : (l.take (j + 1)).mapM (entRef V ns) = some (r ++ [y])) : ToRow V ns wS (w4.setCell ⟨a0, i, none⟩ v') a0 l f (j + 1) := by
  have ka := Keep.setCell (M := (· = a0)) w4 ⟨a0, i, none⟩ v' (fun _ => rfl)
  refine ⟨k.trans ka (fun _ _ h => h) (fun _ _ h => h), v', r ++ [y], by rw [← hset v']; exact setCell_cells hrow i v', ?_, hm⟩
  rw [List.map_append]
  exact World.ownsRow.keep (M := (· = a0)) hown ka (fun i hi h => by omega)
/-- What is told of that to which an action applies. -/
theorem to_made {wx : World} {M : Nat → Prop} {a0 : Nat} {ps rs : List Str} {l : List (Str × RTy × Bool)} {pv rv cv : Value} (hM : ¬ M a0) (hrow : wx.heap[a0]? = some (.cells #[pv, rv, cv] 116 (0, 0))) (hp : StrsAt wx M ps pv) (hr : StrsAt wx M rs rv) (hc : RShape wx M (some (.record l)) cv) :
    RTo wx M (some (ps, rs, l)) (.pointer (some ⟨a0, 0, none⟩)) := ⟨a0, pv, rv, cv, rfl, hM, hrow, hp, hr, hc⟩

theorem fin_to {wQ w5 : World} {u : Uid} {P : List Uid} {an : Option Nat} {d m a0 B mb : Nat} {p1 p2 : Value} {l1 l2 : List Str} {l : List (Str × RTy × Bool)} (hL : Laid wQ w5 u P an d m (.pointer none)) (hrow : w5.heap[a0]? = some (.cells #[p1, p2, .map none] 116 (0, 0)))
    (hp : StrsAt w5 (fun i => i < B ∨ i = a0 ∨ i = d) l1 p1) (hr : StrsAt w5 (fun i => i < B ∨ i = a0 ∨ i = d) l2 p2) (hc : RTyIs w5 (fun i => i < B ∨ i = a0 ∨ i = d) (.record l) (.iface 75 (.map (some mb)))) (hB : B ≤ a0) (_hBd : B ≤ d) (hd : a0 ≠ d) (hm : a0 ≠ m) (hq : wQ.heap.size ≤ a0) :
    Laid wQ ((w5.setCell ⟨a0, 2, none⟩ (.map (some mb))).setCell ⟨d, 8, none⟩ (.pointer (some ⟨a0, 0, none⟩))) u P an d m (.pointer (some ⟨a0, 0, none⟩)) ∧
    RTo ((w5.setCell ⟨a0, 2, none⟩ (.map (some mb))).setCell ⟨d, 8, none⟩ (.pointer (some ⟨a0, 0, none⟩))) (fun i => i < B) (some (l1, l2, l)) (.pointer (some ⟨a0, 0, none⟩)) := by
  have k1 := Keep.setCell (M := (· = a0)) w5 ⟨a0, 2, none⟩ (.map (some mb)) (fun _ => rfl)
  have hL1 := hL.keepM k1 (fun h => hd h.symm) (fun h => hm h.symm) (fun i hi h => by omega)
  have hr1 : (w5.setCell ⟨a0, 2, none⟩ (.map (some mb))).heap[a0]? = some (.cells #[p1, p2, .map (some mb)] 116 (0, 0)) := setCell_cells hrow 2 (.map (some mb))
  have k2 := Keep.setCell (M := (· = d)) (w5.setCell ⟨a0, 2, none⟩ (.map (some mb))) ⟨d, 8, none⟩ (.pointer (some ⟨a0, 0, none⟩)) (fun _ => rfl)
  have hr2 := k2.heap hr1 hd
  refine ⟨hL1.put _, to_made (fun h => by omega) hr2 ?_ ?_ ⟨mb, rfl, ?_⟩⟩
  · exact StrsAt.keep.k k2 (fun i hi h => .inr (.inr h)) (fun i hi h => .inl h) (StrsAt.keep.k (M' := fun i => i < B ∨ i = a0 ∨ i = d) k1 (fun i hi h => .inr (.inl h)) (fun _ _ h => h) hp)
  · exact StrsAt.keep.k k2 (fun i hi h => .inr (.inr h)) (fun i hi h => .inl h) (StrsAt.keep.k (M' := fun i => i < B ∨ i = a0 ∨ i = d) k1 (fun i hi h => .inr (.inl h)) (fun _ _ h => h) hr)
  · exact RTyIs.keep k2 (fun i hi h => .inr (.inr h)) (fun i hi h => .inl h) (RTyIs.keep (M' := fun i => i < B ∨ i = a0 ∨ i = d) k1 (fun i hi h => .inr (.inl h)) (fun _ _ h => h) hc)
theorem RTyIs.notRec {w : World} {M : Nat → Prop} {t : RTy} {T : TypeId} {x : Value} (h : RTyIs w M t (.iface T x)) (hn : ∀ l, t ≠ .record l) : T ≠ 75 := by
  cases h <;> first | (intro h; cases h; done) | exact absurd rfl (hn _)

set_option maxRecDepth 100000 in
set_option maxHeartbeats 16000000 in
theorem resolveActions_c (w : World) (MR : Nat → Prop) (b mE mN mC bo oA : Nat) (V : Env) (hS : RS w MR b mE mN mC V) (fuel : Nat) (ns : Str) (hns : ns.size ≤ 1000000) (ma : Option Nat) (la : List (Str × Value)) (hn : KMapO Value.string w ma la) (hma : ∀ i, ma = some i → ¬ MR i) (hMo : MR oA) (hMR : ∀ i, MR i → i < w.heap.size)
    (AA : Str → AAct) (hAA : ∀ p ∈ la, p.1.size ≤ 1000000 ∧ AActIs w MR (AA p.1) p.2 ∧ ∃ x, resAct V fuel ns p.1 (AA p.1) = some x)
    (c3 : w.cell? ⟨bo, 3, none⟩ = some (.map (some oA))) (R0 : List (Uid × RAct)) (hR0 : ∃ lv, KMap encU w oA lv ∧ MapRel (RActIs w MR) R0 lv) :
    Calls Tryz.prog 56 #[.pointer (some ⟨b, 0, none⟩), .string ns, .map ma, .pointer (some ⟨bo, 0, none⟩)] w fun e w' => ActsOut MR oA ns la (fun n => resAct V fuel ns n (AA n)) R0 e w' ∧ Keep (· = oA) w w' := by
  have hbo : bo ≠ oA := by obtain ⟨lv, hm, _⟩ := hR0; exact cell_ne_map c3 hm
  obtain ⟨o1, hrun, hit⟩ := hn.range (w := w) Tryz.underlying131
  obtain ⟨iU, hiU, hzU, hsU, hbU⟩ := info_parts infoEntType
  have HU := Lib.hid (And.intro hiU (And.intro hzU (And.intro hsU hbU)))
  obtain ⟨iV, hiV, hzV, hsV, hbV⟩ := info_parts infoUID
  have HV := Lib.hid (And.intro hiV (And.intro hzV (And.intro hsV hbV)))
  have HI := Lib.hid hit
  have HA := Lib.hid (And.intro hS (And.intro hn (And.intro hma (And.intro hMo (And.intro hAA (And.intro c3 (And.intro hR0 (And.intro hbo hMR))))))))
  clear hit hS hn hma hMo hAA c3 hR0 hbo hMR hiU hzU hsU hbU hiV hzV hsV hbV
  go_enter Tryz.func56, Tryz.ntmps56
  go_wp2_with fail
  clear hrun
  go_loopg [] la.length (fun k wr => ∃ left R', left.length = k ∧ Out encU RActIs MR w wr ma w.heap.size oA la (actU ns) (fun n => ((resAct V fuel ns n (AA n)).getD none).getD default) R0 left R' ∧ ∀ p ∈ la, p.1 ∉ left.map (·.1) → ∃ x, resAct V fuel ns p.1 (AA p.1) = some (some x))
  case atStart =>
    obtain ⟨hS, hn, hma, hMo, hAA, c3, hR0, hbo, hMR⟩ := HA.out
    exact ⟨la, R0, rfl, Out.start RActIs.keep HI.out (fun i hi e => hma i hi (e ▸ hMo)) hR0, fun p hp h => (h (List.mem_map.2 ⟨p, hp, rfl⟩)).elim⟩
  case round =>
    obtain ⟨left, R', e1, hF⟩ := hrel
    have HF := Lib.hid (And.intro e1 hF)
    clear HI e1 hF
    rcases HF.out.2.1.it.next (P := Tryz.prog) (fun h => by cases h; rfl) 0 with ⟨rfl, hnext⟩ | ⟨p, lf, w', hp, hnext, hentry, hit', hk', hsz'⟩
    · go_wp2_with fail
      go_ret
      obtain ⟨h1, h2⟩ := HF.out.2.1.over RActIs.keep
      exact ⟨.inr ⟨rfl, fun p hp => HF.out.2.2 p hp (by simp), R', h1, h2⟩, HF.out.2.1.keep⟩
    · obtain ⟨hS, hn, hma, hMo, hAA, c3, hR0, hbo, hMR⟩ := HA.out
      have hpm := HF.out.2.1.mem hp
      obtain ⟨pk, pv⟩ := p
      obtain ⟨hps, hpe, res, hres⟩ : pk.size ≤ _ ∧ AActIs w MR (AA pk) pv ∧ _ := hAA (pk, pv) hpm
      dsimp only at hnext hentry
      have kw : Keep (· = oA) w w' := HF.out.2.1.keep2 hk' (Keep.refl NoB w')
      obtain ⟨an, pvv, tv, hv, hsl, hsz, hpl, hto⟩ := AActIs.keep.k (M' := fun i => MR i) kw (fun i _ e => e ▸ hMo) (fun _ _ h => h) hpe
      obtain rfl : pv = .agg #[.map an, pvv, tv] := hv
      obtain ⟨ov, c, rfl, hsl⟩ := hsl
      obtain ⟨n, hne⟩ : ∃ n, n = (AA pk).parents.length := ⟨_, rfl⟩
      rw [← hne] at hnext hentry hp hsl hpl
      obtain ⟨ap, rfl⟩ : ∃ ap, tv = .pointer ap := by
        cases hq : (AA pk).app with
        | none => rw [hq] at hto; exact ⟨none, hto⟩
        | some x => rw [hq] at hto; obtain ⟨bt, _, _, _, e, _⟩ := hto; exact ⟨_, e⟩
      have hS' := hS.keep (M' := MR) kw (fun i _ e => e ▸ hMo) (fun _ _ h => h)
      have c3' := kw.cell c3 hbo
      have kA0 : Keep NoB w' (w'.alloc (.cells #[.map an, .slice ov n c, .pointer ap] 194)) := Keep.alloc _ _ _
      have hbA0 := (MapKept.heap_alloc w' (.cells #[.map an, .slice ov n c, .pointer ap] 194)).1
      have HP := Lib.hid (And.intro hp (And.intro hit' (And.intro hk' (And.intro hpm (And.intro hne (And.intro hsl (And.intro hsz' (And.intro kw (And.intro c3' (And.intro hS' (And.intro hres (And.intro hsz hto))))))))))))
      have HA0 := Lib.hid (And.intro kA0 hbA0)
      clear hp hit' hk' hpm hne hsl hsz' kw c3' hS hn hma hMo hAA c3 hR0 hbo hMR hpe hS' hres hsz hto kA0 hbA0
      go_wp2_with (go_at_call 86; refine (qualAction_c _ _ hns).mono ?_; rintro e w' ⟨rfl, rfl⟩)
      refine (newUID_c _ _ _).mono ?_
      rintro e w3 ⟨rfl, k3⟩
      have kB : Keep NoB w' (w3.alloc (.cells #[.string (actionTy ns), .string pk] 96)) := (HA0.out.1.then k3).then (Keep.alloc _ _ _)
      have hbA : (w3.alloc (.cells #[.string (actionTy ns), .string pk] 96)).heap[w'.heap.size]? = some (.cells #[.map an, .slice ov n c, .pointer ap] 194 (0, 0)) := (k3.then (Keep.alloc _ _ NoB)).heap HA0.out.2 (NoB.not _)
      have hbU : (w3.alloc (.cells #[.string (actionTy ns), .string pk] 96)).heap[w3.heap.size]? = some (.cells #[.string (actionTy ns), .string pk] 96 (0, 0)) := (MapKept.heap_alloc w3 _).1
      have f1 : (w3.alloc (.cells #[.string (actionTy ns), .string pk] 96)).cell? ⟨w'.heap.size, 1, none⟩ = some (.slice ov n c) := by rw [cell_cells hbA]; rfl
      have hle3 : w'.heap.size + 1 ≤ w3.heap.size := by have := k3.size; rw [World.size_alloc] at this; omega
      have HB := Lib.hid (And.intro kB (And.intro hbA (And.intro hbU hle3)))
      clear k3 kB hbA hbU hle3 hnext hentry
      go_wp2_with fail
      clear f1
      obtain ⟨wb, hwb⟩ : ∃ wb, wb = w3.alloc (.cells #[.string (actionTy ns), .string pk] 96) := ⟨_, rfl⟩
      rw [← hwb] at HB ⊢
      have HWb := Lib.hid (show wb.heap.size = w3.heap.size + 1 by rw [hwb, World.size_alloc])
      clear hwb
      obtain ⟨bu, hbu⟩ : ∃ bu, bu = w3.heap.size := ⟨_, rfl⟩
      rw [← hbu] at HB HWb ⊢
      clear hbu
      go_loopg [13, 45] n (fun k sl i w2 => ∃ j : Nat, j + k = n ∧ i = .int .i64 j ∧ ParRow ns w' w2 wb (AA pk).parents sl j)
      case atStart => exact ⟨0, by omega, rfl, Keep.refl _ _, rfl, .inl ⟨rfl, rfl⟩⟩
      case round =>
        obtain ⟨j, hj, rfl, hrow⟩ := hrel
        have HR := Lib.hid hrow
        clear hrow
        by_cases hlt : j < n
        · obtain ⟨hp, hit', hk', hpm, hne, hsl, hsz', kw, c3', hS', hres, hsz, hto⟩ := HP.out
          obtain ⟨k2, hown⟩ := HR.out
          rcases hsl with h0 | ⟨bv, offv, rfl, hMv, hcell⟩
          · omega
          have hcv := (hcell j hlt).2.keep (HB.out.1.then k2) (NoB.not _)
          obtain ⟨uj, huj⟩ : ∃ uj, uj = (AA pk).parents.getD j (⟨#[]⟩, ⟨#[]⟩) := ⟨_, rfl⟩
          have d0 := hcv 0 _ rfl
          have d1 := hcv 1 _ rfl
          rw [Nat.add_zero] at d0
          rw [← huj] at d0 d1
          have HJ := Lib.hid huj
          clear hp hit' hk' hpm hne hcell hsz' kw c3' k2 hS' hres hsz hto hown hcv huj
          go_wp2_with fail
          refine (parRef_c _ ns uj hns).mono ?_
          rintro e w4 ⟨rfl, k4⟩
          obtain ⟨q, hq⟩ : ∃ q, q = parOf ns uj := ⟨_, rfl⟩
          rw [← hq]
          have k24 : Keep NoB wr w4 := (Keep.alloc _ _ _).then k4
          have hown4 := HR.out.2.keep (M := NoB) k24 (fun _ _ => NoB.not _)
          have HQ := Lib.hid (And.intro hq (And.intro k24 hown4))
          clear d0 d1 hq k4 k24 hown4
          go_wp2_with (at_builtin; refine wpList_append_own _ rfl _ _ 89 rfl wb.heap.size 96 iV _ 2 32 Tryz.underlying89 HV.out.1 HV.out.2.1 HV.out.2.2.1 HV.out.2.2.2 rfl (by decide) _ _ _ rfl (HQ.out.2.2.alloc _) ⟨w4.heap.size, 0, none⟩ 1 1 [.string q.1, .string q.2] rfl rfl ?c1 ?c2 ?c3 ?c4 ?c5 ?_)
          case c1 =>
            intro i u hi
            rcases i with _ | _ | i
            · cases hi; exact cell_cells (MapKept.heap_alloc w4 _).1 0
            · cases hi; exact cell_cells (MapKept.heap_alloc w4 _).1 1
            · cases hi
          case c2 => intro u hu; simp only [List.mem_cons, List.not_mem_nil, or_false] at hu; rcases hu with rfl | rfl <;> rfl
          case c3 => unfold maxLen; omega
          case c4 => omega
          case c5 =>
            have h1 := HR.out.1.size
            have h2 := HQ.out.2.1.size
            rw [World.size_alloc]; omega
          intro v' w5 hown5 hgrow _
          obtain ⟨g, cap, rfl⟩ := owns_some hown5
          have kg := grown_keep HQ.out.2.2 hgrow
          have ka : Keep (fun k => wb.heap.size ≤ k) w4 w5 := (Keep.alloc w4 (.cells #[.string q.1, .string q.2] 96) NoB).first kg
          have HG := Lib.hid (And.intro hown5 ka)
          clear hown5 hgrow kg ka
          go_wp2_with fail
          go_roundg (gk - 1)
          case measure => omega
          case rel =>
            obtain ⟨hown5, ka⟩ := HG.out
            obtain ⟨hq, k24, hown4⟩ := HQ.out
            have hne := HP.out.2.2.2.2.1
            have hjl : j < (AA pk).parents.length := by omega
            have huj : uj = (AA pk).parents[j] := by rw [HJ.out, List.getD_eq_getElem?_getD, List.getElem?_eq_getElem hjl]; rfl
            refine ⟨j + 1, by omega, by go_num, (HR.out.1.then k24).trans ka (fun _ _ h => h) (fun i hi h => by omega), ?_⟩
            rw [List.take_succ_eq_append_getElem hjl, List.map_append, ← huj, List.map_cons, List.map_nil, uidCells_snoc, ← hq, List.map_take]
            exact hown5
        · have hjn : j = n := by omega
          subst hjn
          obtain ⟨kr, hown⟩ := HR.out
          obtain ⟨P, hP⟩ : ∃ P, P = (AA pk).parents.map (parOf ns) := ⟨_, rfl⟩
          have htk : (AA pk).parents.take j = (AA pk).parents := by rw [HP.out.2.2.2.2.1]; exact List.take_length
          rw [htk, ← hP] at hown
          obtain ⟨hlen, so, sc, hse, hus⟩ := ownsRow_uids (M := fun i => i < wb.heap.size) hown (fun i h => h)
          subst hse
          obtain ⟨pl, hpl2⟩ : ∃ pl, pl = P.length := ⟨_, rfl⟩
          rw [← hpl2] at hus hlen ⊢
          have HNS := Lib.hid (show ∀ x, Keep NoB wr x → Calls Tryz.prog 88 #[.slice so pl sc] x (fun e w' => (∃ m l, e = .returned (.agg #[.map (some m)]) ∧ x.heap.size ≤ m ∧ KMap encU w' m l ∧ (∀ p ∈ l, p.2 = .agg #[]) ∧ ∀ y, y ∈ l.map (·.1) ↔ y ∈ P) ∧ Keep NoB x w') from fun x kx => by
            have h1 : UidsAt wr (fun i => i < wb.heap.size) P (.slice so P.length sc) := ⟨so, sc, rfl, by rw [← hpl2]; exact hus⟩
            rw [hpl2]
            exact newUIDSet_c x _ P so sc (by omega) (UidsAt.keep.k (M' := fun i => i < wb.heap.size) kx (fun _ _ h => h.elim) (fun _ _ h => h) h1))
          have hbA := kr.heap HB.out.2.1 (NoB.not _)
          have hbU := kr.heap HB.out.2.2.1 (NoB.not _)
          have HQ4 := Lib.hid (show ∀ x, Keep NoB wr x → x.cell? ⟨bu, 0, none⟩ = some (.string (actionTy ns)) ∧ x.cell? ⟨bu, 1, none⟩ = some (.string pk) ∧ x.cell? ⟨w'.heap.size, 0, none⟩ = some (.map an) ∧ x.cell? ⟨w'.heap.size, 2, none⟩ = some (.pointer ap) from fun x kx => by
            have h1 := kx.heap hbA (NoB.not _)
            have h2 := kx.heap hbU (NoB.not _)
            exact ⟨by rw [cell_cells h2]; rfl, by rw [cell_cells h2]; rfl, by rw [cell_cells h1]; rfl, by rw [cell_cells h1]; rfl⟩)
          have HX := Lib.hid (And.intro kr (And.intro hP (And.intro hpl2 (And.intro hlen htk))))
          have HJ := Lib.hid hj
          clear kr hown hP hpl2 hlen htk hus hbA hbU hj hlt
          have hKA : Keep NoB wr wr.drew := Keep.drew _ _
          obtain ⟨q0, q1, q2, q3⟩ := HQ4.out _ hKA
          go_upto_region 12 with fail
          go_cut [16] from 32 to 173 (fun s16 wx => ∃ d m, s16 = .pointer (some ⟨d, 0, none⟩) ∧ Laid wr wx (actU ns pk) P an d m (.pointer none))
          case first =>
            go_region_held3 (fun x => Keep NoB wr x ∧ x.cell? ⟨bu, 0, none⟩ = some (.string (actionTy ns)) ∧ x.cell? ⟨bu, 1, none⟩ = some (.string pk) ∧ x.cell? ⟨w'.heap.size, 0, none⟩ = some (.map an) ∧ x.cell? ⟨w'.heap.size, 2, none⟩ = some (.pointer ap))
              (with_reducible (first
                | (refine (fun hh => ⟨hh, HQ4.out _ hh⟩) ?_; (repeat (refine keepLate ?_ (by first | exact Nat.le_refl _ | exact kw4.size))); exact kw4)
                | exact ⟨(kw4.then (Keep.alloc _ _ _)), HQ4.out _ (kw4.then (Keep.alloc _ _ _))⟩
                | exact ⟨(hKA.then (Keep.alloc _ _ _)), HQ4.out _ (hKA.then (Keep.alloc _ _ _))⟩
                | exact ⟨kw4, HQ4.out _ kw4⟩
                | exact ⟨hKA, q0, q1, q2, q3⟩
                | assumption))
              ((first
                | (go_at_call 88
                   refine (HNS.out _ (by go_split_ands; assumption)).mono ?_
                   rintro e w4 ⟨⟨m, lm, rfl, hm, hkm, hv, hl⟩, k4⟩
                   have kw4 : Keep NoB wr w4 := Keep.then (by go_split_ands; assumption) k4
                   (first | (with_reducible have hd := heap_alloc1 k4) | (with_reducible have hd := heap_alloc2 k4) | skip)
                   (first | (have hcd := cells9 hd; obtain ⟨e0, e1, e2, e3, e4, e5, e6, e7, e8, z0, z1, z2, z3, z4, z5, z6, z7, z8⟩ := hcd) | skip))))
            · have HZ := Lib.hid (And.intro hm (And.intro hkm (And.intro hl kw4)))
              clear hKA q0 q1 q2 q3 k4 hm hkm hv hl kw4
              go_wp2_with fail
              go_meet
              case rel =>
                obtain ⟨hm, hkm, hl, kw4⟩ := HZ.out
                exact ⟨_, m, rfl, Laid.late (u := actU ns pk) kw4 hkm hl (by simpa using hm)⟩
            · have HZ := Lib.hid (And.intro hm (And.intro hkm (And.intro hl (And.intro kw4 hd))))
              clear hKA q0 q1 q2 q3 k4 hm hkm hv hl kw4 hd e0 e1 e2 e3 e4 e5 e6 e7 e8 z0 z1 z2 z3 z4 z5 z6 z7 z8
              go_wp2_with fail
              go_meet
              case rel =>
                obtain ⟨hm, hkm, hl, kw4, hd⟩ := HZ.out
                exact ⟨_, m, rfl, Laid.early (u := actU ns pk) hd (Nat.le_refl _) kw4 hkm hl (by simp at hm; omega)⟩
          case rest =>
            obtain ⟨d, m, rfl, hL⟩ := hcut
            have f2 := (HQ4.out wc hL.keep).2.2.2
            have HL := Lib.hid hL
            clear hL hKA q0 q1 q2 q3
            go_upto_if 65 with fail
            go_cut [17, 19, 20, 21, 23, 24, 25, 26, 27, 28, 29] from 32 to 173 (fun _ _ _ _ _ _ _ _ _ _ _ wx => ∃ tp x, Laid wr wx (actU ns pk) P an d m tp ∧ tp.oneCell' = true ∧ RTo wx (fun i => i < w'.heap.size) x tp ∧ resTo V fuel ns (AA pk).app = some (some x))
            case first =>
              obtain ⟨wQ, rfl⟩ : ∃ wQ : World, wQ = wr := ⟨_, rfl⟩
              obtain ⟨hp, hit', hk', hpm, hne, hsl, hsz', kw, c3', hS', hres, hsz, hto⟩ := HP.out
              obtain ⟨t, ht, hrt⟩ := resAct_inv hres
              cases happ : (AA pk).app with
              | none =>
                rw [happ] at hto ht
                obtain rfl : ap = none := by injection hto
                have HT := Lib.hid (And.intro happ ht)
                clear hp hit' hk' hpm hne hsl hsz' kw c3' hS' hres hsz hto ht hrt happ
                go_wp2_with fail
                go_meet
                case rel =>
                  obtain ⟨happ, ht⟩ := HT.out
                  exact ⟨.pointer none, none, HL.out, rfl, rfl, by first | rfl | (rw [happ]; rfl)⟩
              | some x =>
                obtain ⟨x1, x2, x3⟩ := x
                rw [happ] at hto ht
                obtain ⟨bt, pv, rv, cv, hap, hMb, hbt, hsp, hsr, hct, hz1, hz2, hl1, hl2⟩ := hto
                dsimp only at hsp hsr hct hz1 hz2 hl1 hl2
                obtain rfl : ap = some ⟨bt, 0, none⟩ := by injection hap
                obtain ⟨po, pc, rfl, hpc⟩ := hsp
                obtain ⟨ro, rc, rfl, hrc⟩ := hsr
                obtain ⟨n1, hn1⟩ : ∃ n1, n1 = x1.length := ⟨_, rfl⟩
                obtain ⟨n2, hn2⟩ : ∃ n2, n2 = x2.length := ⟨_, rfl⟩
                rw [← hn1] at hbt hpc hl1
                rw [← hn2] at hbt hrc hl2
                have kc : Keep NoB w' wc := (HB.out.1.then HX.out.1).then HL.out.keep
                have htv : (x3 = none ∧ cv = .nilIface) ∨ ∃ ta T z, x3 = some ta ∧ cv = .iface T z := by
                  cases x3 with
                  | none => exact .inl ⟨rfl, hct⟩
                  | some ta => obtain ⟨T, z, e⟩ := ATyIs.iface hct; exact .inr ⟨ta, T, z, rfl, e⟩
                have HB2 := Lib.hid (show ∀ x, Keep NoB w' x → x.cell? ⟨bt, 0, none⟩ = some (.slice po n1 pc) ∧ x.cell? ⟨bt, 1, none⟩ = some (.slice ro n2 rc) ∧ x.cell? ⟨bt, 2, none⟩ = some cv from fun x kx => by
                  have h1 := kx.heap hbt (NoB.not _)
                  exact ⟨by rw [cell_cells h1]; rfl, by rw [cell_cells h1]; rfl, by rw [cell_cells h1]; rfl⟩)
                have kS := kc.then (Keep.alloc wc (.cells #[.slice none 0 0, .slice none 0 0, .map none] 116) NoB)
                have f3 := (HQ4.out _ (HL.out.keep.then (Keep.alloc wc (.cells #[.slice none 0 0, .slice none 0 0, .map none] 116) NoB))).2.2.2
                have f4 := (HB2.out _ kS).1
                have hbS := (MapKept.heap_alloc wc (.cells #[.slice none 0 0, .slice none 0 0, .map none] 116)).1
                have HT := Lib.hid (And.intro happ (And.intro ht (And.intro hrt (And.intro hpm (And.intro kw (And.intro hS' (And.intro hres (And.intro hpc (And.intro hrc (And.intro hct (And.intro hz1 (And.intro hz2 (And.intro hn1 (And.intro hn2 (And.intro kc (And.intro kS hbS))))))))))))))))
                have HTV := Lib.hid htv
                have hwle : w'.heap.size ≤ wc.heap.size := kc.size
                have HSz := Lib.hid hwle
                clear hp hit' hk' hpm hne hsl hsz' kw c3' hS' hres hsz ht hrt happ hMb hbt hpc hrc hct hz1 hz2 kc kS hbS htv hn1 hn2 hap hwle
                go_wp2_with fail
                clear f2 f3 f4
                obtain ⟨wS, hwS⟩ : ∃ wS, wS = wc.alloc (.cells #[.slice none 0 0, .slice none 0 0, .map none] 116) := ⟨_, rfl⟩
                rw [← hwS] at HT ⊢
                have hsS : wS.heap.size = wc.heap.size + 1 := by rw [hwS, World.size_alloc]
                have HSS := Lib.hid (And.intro hsS (show Keep NoB wc wS from hwS ▸ Keep.alloc _ _ _))
                clear hwS hsS
                obtain ⟨a0, ha0⟩ : ∃ a0, a0 = wc.heap.size := ⟨_, rfl⟩
                rw [← ha0] at HT HSS HSz ⊢
                have HA00 := Lib.hid ha0
                clear ha0
                go_loopg [74] n1 (fun k i w2 => ∃ j : Nat, j + k = n1 ∧ i = .int .i64 j ∧ ToRow V ns wS w2 a0 x1 (fun sl => #[sl, .slice none 0 0, .map none]) j)
                case atStart => exact ⟨0, by omega, rfl, Keep.refl _ _, .slice none 0 0, [], HT.out.2.2.2.2.2.2.2.2.2.2.2.2.2.2.2.2, ⟨rfl, .inl ⟨rfl, rfl⟩⟩, by simp⟩
                case round =>
                  obtain ⟨j1, hj1, rfl, hrow⟩ := hrel
                  have HR1 := Lib.hid hrow
                  clear hrow
                  by_cases hlt : j1 < n1
                  · obtain ⟨happ, ht, hrt, hpm, kw, hS', hres, hpc, hrc, hct, hz1, hz2, hn1, hn2, kc, kS, hbS⟩ := HT.out
                    obtain ⟨k2, sl, l, hrow, hown, hm⟩ := HR1.out
                    have hkw : Keep NoB w' wr := kS.trans k2 (fun _ _ h => h) (fun i hi h => by have := HSz.out; omega)
                    rcases hpc with h0 | ⟨bv, offv, rfl, hMv, hcell⟩
                    · omega
                    have hcv := (hcell j1 hlt).2.keep hkw (NoB.not _) 0 _ rfl
                    simp only [Nat.mul_one, Nat.add_zero] at hcv
                    obtain ⟨vj, hvj⟩ : ∃ vj, vj = x1.getD j1 ⟨#[]⟩ := ⟨_, rfl⟩
                    rw [← hvj] at hcv
                    have hjl : j1 < x1.length := by omega
                    have hvj2 : vj = x1[j1] := by rw [hvj, List.getD_eq_getElem?_getD, List.getElem?_eq_getElem hjl]; rfl
                    have hvjs : vj.size ≤ 1000000 := by rw [hvj2]; exact hz1 _ (List.getElem_mem hjl)
                    have HCR := Lib.hid (resEntRef_c wr MR b mE mN mC V (hS'.keep hkw (fun _ _ h => h.elim) (fun _ _ h => h)) ns vj hns hvjs)
                    have HV2 := Lib.hid (And.intro hvj2 (And.intro hkw (List.getElem_mem hjl)))
                    clear happ ht hrt hpm kw hS' hres hrc hct hz1 hz2 hn1 hn2 kc kS hbS k2 hrow hown hm hkw hMv hcell hvj hvj2 hvjs
                    go_wp2_with fail
                    refine HCR.out.mono ?_
                    rintro e w5 ⟨hout, k5⟩
                    cases hq : entRef V ns vj with
                    | none =>
                      rw [hq] at hout
                      obtain ⟨a, rfl⟩ : ∃ a, e = _ := hout
                      have HQ := Lib.hid (And.intro hq k5)
                      clear hq k5 hcv
                      go_wp2_with fail
                      go_ret
                      obtain ⟨happ, ht, hrt, hpm, kw, hS', hres, hpc, hrc, hct, hz1, hz2, hn1, hn2, kc, kS, hbS⟩ := HT.out
                      refine ⟨.inl ⟨⟨a, rfl⟩, _, hpm, ?_⟩, (kw.then HV2.out.2.1).then HQ.out.2⟩
                      show resAct V fuel ns pk (AA pk) = some none
                      obtain ⟨c0, _, rfl⟩ := resTo_inv ht
                      rw [hres, hrt, mapM_hit_none HV2.out.2.2 (by rw [← HV2.out.1]; exact HQ.out.1)]; rfl
                    | some y =>
                      rw [hq] at hout
                      obtain rfl : e = _ := hout
                      obtain ⟨k2, sl, l, hrow, hown, hm⟩ := HR1.out
                      have hrow5 := k5.heap hrow (NoB.not _)
                      have hsl5 : w5.cell? ⟨a0, 0, none⟩ = some sl := by rw [cell_cells hrow5]; rfl
                      have hfz := frozen_cells hrow5 0
                      have hown5 := hown.keep (M := NoB) k5 (fun _ _ => NoB.not _)
                      have HQ := Lib.hid (And.intro hq (And.intro k5 (And.intro hrow5 (And.intro hown5 (And.intro hm k2)))))
                      clear hq k5 hcv k2 hrow hown hm hrow5 hown5
                      go_wp2_with (at_builtin; refine wpList_append_own _ rfl _ _ 65 rfl wS.heap.size 67 iU _ 1 16 Tryz.underlying65 HU.out.1 HU.out.2.1 HU.out.2.2.1 HU.out.2.2.2 rfl (by decide) _ _ _ rfl (HQ.out.2.2.2.1.alloc _) ⟨w5.heap.size, 0, none⟩ 1 1 [.string y] rfl rfl ?d1 ?d2 ?d3 ?d4 ?d5 ?_)
                      case d1 =>
                        intro q u hq
                        rcases q with _ | q
                        · cases hq; exact cell_cells (MapKept.heap_alloc w5 _).1 0
                        · cases hq
                      case d2 => intro u hu; simp only [List.mem_singleton] at hu; subst hu; rfl
                      case d3 => unfold maxLen; omega
                      case d4 => omega
                      case d5 =>
                        have h1 := HR1.out.1.size
                        have h2 := HQ.out.2.1.size
                        rw [World.size_alloc]; omega
                      intro v' w6 hown6 hgrow _
                      obtain ⟨g, cap, rfl⟩ := owns_some hown6
                      have kg := grown_keep HQ.out.2.2.2.1 hgrow
                      have ka : Keep (fun k => wS.heap.size ≤ k) w5 w6 := (Keep.alloc w5 (.cells #[.string y] 67) NoB).first kg
                      have has := HSS.out.1
                      have hrow6 := ka.heap HQ.out.2.2.1 (fun h => by omega)
                      have hsl6 : w6.cell? ⟨a0, 0, none⟩ = some sl := by rw [cell_cells hrow6]; rfl
                      have hfz6 := frozen_cells hrow6 0
                      have HG := Lib.hid (And.intro hown6 (And.intro ka hrow6))
                      clear hown6 hgrow kg ka hrow6 hsl5 hfz has
                      go_wp2_with fail
                      clear hsl6 hfz6
                      go_roundg (gk - 1)
                      case measure => omega
                      case rel =>
                        obtain ⟨hown6, ka, hrow6⟩ := HG.out
                        obtain ⟨hq, k5, hrow5, hown5, hm, k2⟩ := HQ.out
                        have has := HSS.out.1
                        refine ⟨j1 + 1, by omega, by go_num, ToRow.step ((k2.trans k5 (fun _ _ h => h) (fun _ _ h => h.elim)).trans ka (fun _ _ h => h) (fun i hi h => by omega)) (by omega) hrow6 (fun v => rfl) hown6 ?_⟩
                        rw [mapM_take_succ hjl hm, ← HV2.out.1, hq]; rfl
                  · have hjn : j1 = n1 := by omega
                    subst hjn
                    obtain ⟨k2, sl, l1, hrow, hown, hm⟩ := HR1.out
                    obtain ⟨happ, ht, hrt, hpm, kw, hS', hres, hpc, hrc, hct, hz1, hz2, hn1, hn2, kc, kS, hbS⟩ := HT.out
                    have hkw : Keep NoB w' wr := kS.trans k2 (fun _ _ h => h) (fun i hi h => by have := HSz.out; omega)
                    have hst1 : StrsAt wr (fun i => i < wS.heap.size) l1 sl := (ownsRow_strs hown (fun i h => h)).2
                    have hm1 : x1.mapM (entRef V ns) = some l1 := by
                      have h1 := hm
                      rw [hn1, List.take_length] at h1; exact h1
                    have f3 := (HQ4.out wr ((HL.out.keep.then HSS.out.2).trans k2 (fun _ _ h => h) (fun i hi h => by have := HL.out.keep.size; have := HA00.out; omega))).2.2.2
                    have f4 := (HB2.out _ hkw).2.1
                    obtain ⟨so1, sn1, sc1, hsl1⟩ : ∃ so1 sn1 sc1, sl = Value.slice so1 sn1 sc1 := by
                      obtain ⟨o, c, e, _⟩ := hst1; exact ⟨_, _, _, e⟩
                    have HE1 := Lib.hid (And.intro hkw (And.intro (show wr.heap.size ≥ a0 + 1 by have := k2.size; have := HSS.out.1; omega) (And.intro hst1 (And.intro hm1 (And.intro hrow k2)))))
                    have HJ1 := Lib.hid hj1
                    subst hsl1
                    clear k2 hrow hown hm happ ht hrt hpm kw hS' hres hpc hrc hct hz1 hz2 hn1 hn2 kc kS hbS hkw hst1 hm1 hj1 hlt
                    go_wp2_with fail
                    clear f3 f4
                    obtain ⟨wT, hwT⟩ : ∃ wT : World, wT = wr := ⟨_, rfl⟩
                    rw [← hwT] at HE1 ⊢
                    clear hwT
                    go_loopg [105] n2 (fun k i w2 => ∃ j : Nat, j + k = n2 ∧ i = .int .i64 j ∧ ToRow V ns wT w2 a0 x2 (fun sl => #[.slice so1 sn1 sc1, sl, .map none]) j)
                    case atStart => exact ⟨0, by omega, rfl, Keep.refl _ _, .slice none 0 0, [], HE1.out.2.2.2.2.1, ⟨rfl, .inl ⟨rfl, rfl⟩⟩, by simp⟩
                    case round =>
                      obtain ⟨j2, hj2, rfl, hrow⟩ := hrel
                      have HR2 := Lib.hid hrow
                      clear hrow
                      by_cases hlt : j2 < n2
                      · obtain ⟨happ, ht, hrt, hpm, kw, hS', hres, hpc, hrc, hct, hz1, hz2, hn1, hn2, kc, kS, hbS⟩ := HT.out
                        obtain ⟨k2, sl, l, hrow, hown, hm⟩ := HR2.out
                        have hkw : Keep NoB w' wr := HE1.out.1.trans k2 (fun _ _ h => h) (fun i hi h => by have := HSz.out; omega)
                        rcases hrc with h0 | ⟨bv, offv, rfl, hMv, hcell⟩
                        · omega
                        have hcv := (hcell j2 hlt).2.keep hkw (NoB.not _) 0 _ rfl
                        simp only [Nat.mul_one, Nat.add_zero] at hcv
                        obtain ⟨vj, hvj⟩ : ∃ vj, vj = x2.getD j2 ⟨#[]⟩ := ⟨_, rfl⟩
                        rw [← hvj] at hcv
                        have hjl : j2 < x2.length := by omega
                        have hvj2 : vj = x2[j2] := by rw [hvj, List.getD_eq_getElem?_getD, List.getElem?_eq_getElem hjl]; rfl
                        have hvjs : vj.size ≤ 1000000 := by rw [hvj2]; exact hz2 _ (List.getElem_mem hjl)
                        have HCR := Lib.hid (resEntRef_c wr MR b mE mN mC V (hS'.keep hkw (fun _ _ h => h.elim) (fun _ _ h => h)) ns vj hns hvjs)
                        have HV2 := Lib.hid (And.intro hvj2 (And.intro hkw (List.getElem_mem hjl)))
                        clear happ ht hrt hpm kw hS' hres hpc hct hz1 hz2 hn1 hn2 kc kS hbS k2 hrow hown hm hkw hMv hcell hvj hvj2 hvjs
                        go_wp2_with fail
                        refine HCR.out.mono ?_
                        rintro e w5 ⟨hout, k5⟩
                        cases hq : entRef V ns vj with
                        | none =>
                          rw [hq] at hout
                          obtain ⟨a, rfl⟩ : ∃ a, e = _ := hout
                          have HQ := Lib.hid (And.intro hq k5)
                          clear hq k5 hcv
                          go_wp2_with fail
                          go_ret
                          obtain ⟨happ, ht, hrt, hpm, kw, hS', hres, hpc, hrc, hct, hz1, hz2, hn1, hn2, kc, kS, hbS⟩ := HT.out
                          refine ⟨.inl ⟨⟨a, rfl⟩, _, hpm, ?_⟩, (kw.then HV2.out.2.1).then HQ.out.2⟩
                          show resAct V fuel ns pk (AA pk) = some none
                          obtain ⟨c0, _, rfl⟩ := resTo_inv ht
                          rw [hres, hrt, mapM_hit_none HV2.out.2.2 (by rw [← HV2.out.1]; exact HQ.out.1)]; cases List.mapM (entRef V ns) (x1, x2, x3).fst <;> rfl
                        | some y =>
                          rw [hq] at hout
                          obtain rfl : e = _ := hout
                          obtain ⟨k2, sl, l, hrow, hown, hm⟩ := HR2.out
                          have hrow5 := k5.heap hrow (NoB.not _)
                          have hsl5 : w5.cell? ⟨a0, 1, none⟩ = some sl := by rw [cell_cells hrow5]; rfl
                          have hfz := frozen_cells hrow5 1
                          have hown5 := hown.keep (M := NoB) k5 (fun _ _ => NoB.not _)
                          have HQ := Lib.hid (And.intro hq (And.intro k5 (And.intro hrow5 (And.intro hown5 (And.intro hm k2)))))
                          clear hq k5 hcv k2 hrow hown hm hrow5 hown5
                          go_wp2_with (at_builtin; refine wpList_append_own _ rfl _ _ 65 rfl wT.heap.size 67 iU _ 1 16 Tryz.underlying65 HU.out.1 HU.out.2.1 HU.out.2.2.1 HU.out.2.2.2 rfl (by decide) _ _ _ rfl (HQ.out.2.2.2.1.alloc _) ⟨w5.heap.size, 0, none⟩ 1 1 [.string y] rfl rfl ?e1 ?e2 ?e3 ?e4 ?e5 ?_)
                          case e1 =>
                            intro q u hq
                            rcases q with _ | q
                            · cases hq; exact cell_cells (MapKept.heap_alloc w5 _).1 0
                            · cases hq
                          case e2 => intro u hu; simp only [List.mem_singleton] at hu; subst hu; rfl
                          case e3 => unfold maxLen; omega
                          case e4 => omega
                          case e5 =>
                            have h1 := HR2.out.1.size
                            have h2 := HQ.out.2.1.size
                            rw [World.size_alloc]; omega
                          intro v' w6 hown6 hgrow _
                          obtain ⟨g, cap, rfl⟩ := owns_some hown6
                          have kg := grown_keep HQ.out.2.2.2.1 hgrow
                          have ka : Keep (fun k => wT.heap.size ≤ k) w5 w6 := (Keep.alloc w5 (.cells #[.string y] 67) NoB).first kg
                          have has := HE1.out.2.1
                          have hrow6 := ka.heap HQ.out.2.2.1 (fun h => by omega)
                          have hsl6 : w6.cell? ⟨a0, 1, none⟩ = some sl := by rw [cell_cells hrow6]; rfl
                          have hfz6 := frozen_cells hrow6 1
                          have HG := Lib.hid (And.intro hown6 (And.intro ka hrow6))
                          clear hown6 hgrow kg ka hrow6 hsl5 hfz has
                          go_wp2_with fail
                          clear hsl6 hfz6
                          go_roundg (gk - 1)
                          case measure => omega
                          case rel =>
                            obtain ⟨hown6, ka, hrow6⟩ := HG.out
                            obtain ⟨hq, k5, hrow5, hown5, hm, k2⟩ := HQ.out
                            have has := HE1.out.2.1
                            refine ⟨j2 + 1, by omega, by go_num, ToRow.step ((k2.trans k5 (fun _ _ h => h) (fun _ _ h => h.elim)).trans ka (fun _ _ h => h) (fun i hi h => by omega)) (by omega) hrow6 (fun v => rfl) hown6 ?_⟩
                            rw [mapM_take_succ hjl hm, ← HV2.out.1, hq]; rfl
                      · have hjn : j2 = n2 := by omega
                        subst hjn
                        obtain ⟨k2, sl, l2, hrow, hown, hm⟩ := HR2.out
                        obtain ⟨happ, ht, hrt, hpm, kw, hS', hres, hpc, hrc, hct, hz1, hz2, hn1, hn2, kc, kS, hbS⟩ := HT.out
                        obtain ⟨hkT, hsT, hst1, hm1, hrowT, kT⟩ := HE1.out
                        have hkw : Keep NoB w' wr := hkT.trans k2 (fun _ _ h => h) (fun i hi h => by have := HSz.out; omega)
                        have hm2 : x2.mapM (entRef V ns) = some l2 := by
                          have h1 := hm
                          rw [hn2, List.take_length] at h1; exact h1
                        have kcw : Keep (· = a0) wc wr := (HSS.out.2.trans kT (M'' := (· = a0)) (fun _ _ h => h.elim) (fun _ _ h => h)).trans k2 (fun _ _ h => h) (fun _ _ h => h)
                        have ha0 := HA00.out
                        have hdlt : d < wc.heap.size := (Array.getElem?_eq_some_iff.1 HL.out.row).1
                        have hmlt : m < wc.heap.size := by obtain ⟨l, h1, _⟩ := HL.out.set; exact h1.lt
                        have hQc := HL.out.keep.size
                        have hLr := HL.out.keepM kcw (by omega) (by omega) (fun i hi h => by omega)
                        have kQ : Keep NoB wQ wr := hLr.keep
                        have f3 := (HQ4.out wr kQ).2.2.2
                        have f4 := (HB2.out _ hkw).2.2
                        have hs2 := k2.size
                        have has := HSS.out.1
                        have hst2 : StrsAt wr (fun i => i < w'.heap.size ∨ i = a0 ∨ i = d) l2 sl := (ownsRow_strs hown (fun i h => by have := HSz.out; rcases h with h | h | h <;> omega)).2
                        have hst1' : StrsAt wr (fun i => i < w'.heap.size ∨ i = a0 ∨ i = d) l1 (.slice so1 sn1 sc1) := StrsAt.keep.k k2 (fun i hi h => by show i < _; omega) (fun i hi h => by show i < _; have := HSz.out; rcases h with h | h | h <;> omega) hst1
                        have hSr := hS'.keep (M' := MR) hkw (fun _ _ h => h.elim) (fun _ _ h => h)
                        have hctr := ATags.keep.k (M' := fun i => MR i) hkw (fun _ _ h => h.elim) (fun _ _ h => h) hct
                        obtain ⟨cc, hcc, rfl⟩ := resTo_inv ht
                        dsimp only at hcc hrt
                        rw [hm1, hm2] at hrt
                        have ht2 : resTo V fuel ns (AA pk).app = some (cc.map fun l => some (l1, l2, l)) := by
                          rw [happ, ht]
                          dsimp only
                          rw [hm1, hm2]; rfl
                        have hbd : w'.heap.size ≤ d := by have h1 := HL.out.hd; have h2 := HX.out.1.size; have h3 := HB.out.1.size; omega
                        have g8 : wr.heap[d]? = _ := hLr.row
                        have HF4 := Lib.hid (And.intro hLr (And.intro hrow (And.intro hst1' (And.intro hst2 (And.intro hkw (And.intro hdlt (And.intro hmlt (And.intro hbd (And.intro hcc (And.intro ht2 (And.intro (show wr.heap.size > a0 by omega) (And.intro hres (And.intro hrt (And.intro hpm (And.intro kw (And.intro hQc g8))))))))))))))))
                        have HCX := Lib.hid (And.intro hSr hctr)
                        clear k2 hrow hown hm happ ht hrt hpm kw hS' hres hpc hrc hct hz1 hz2 hn1 hn2 kc kS hbS hkT hsT hst1 hm1 hrowT kT hkw hm2 kcw hdlt hmlt hQc hLr kQ hs2 has hst2 hst1' hSr hctr hcc ht2 hbd g8 hlt
                        rcases HTV.out with ⟨rfl, rfl⟩ | ⟨ta, T, z, rfl, rfl⟩
                        · have hmm := @run_makeMap Tryz.prog
                          obtain ⟨hLr, hrow, hst1', hst2, hkw, hdlt, hmlt, hbd, hcc, ht2, hsr, hres, hrt, hpm, kw, hQc, g8⟩ := HF4.out
                          have kM := Keep.alloc wr (.map #[] 0) NoB
                          have hrowM := kM.heap hrow (NoB.not _)
                          have e2 : (wr.alloc (.map #[] 0)).cell? ⟨a0, 2, none⟩ = some (.map none) := by rw [cell_cells hrowM]; rfl
                          have z2 := frozen_cells hrowM 2
                          have kM2 := Keep.setCell (M := (· = a0)) (wr.alloc (.map #[] 0)) ⟨a0, 2, none⟩ (.map (some wr.heap.size)) (fun _ => rfl)
                          have g8' := kM2.heap (kM.heap g8 (NoB.not _)) (by omega)
                          have e8 : ((wr.alloc (.map #[] 0)).setCell ⟨a0, 2, none⟩ (.map (some wr.heap.size))).cell? ⟨d, 8, none⟩ = some (.pointer none) := by rw [cell_cells g8']; rfl
                          have z8 := frozen_cells g8' 8
                          clear hLr hrow hst1' hst2 hkw hdlt hmlt hbd hcc ht2 hsr hres hrt hpm kw hQc g8 kM hrowM kM2 g8' ha0
                          go_wp2_with fail
                          go_meet
                          case rel =>
                            obtain ⟨hLr, hrow, hst1', hst2, hkw, hdlt, hmlt, hbd, hcc, ht2, hsr, hres, hrt, hpm, kw, hQc, g8⟩ := HF4.out
                            have ha0 := HA00.out
                            have kM := Keep.alloc wr (.map #[] 0) NoB
                            have hM0 : ∀ i, i < wr.heap.size → (i < w'.heap.size ∨ i = a0 ∨ i = d) → (i < w'.heap.size ∨ i = a0 ∨ i = d) := fun _ _ h => h
                            obtain ⟨h1, h2⟩ := fin_to (B := w'.heap.size) (mb := wr.heap.size) (l := []) (hLr.keepM kM (NoB.not _) (NoB.not _) (fun _ _ => NoB.not _)) (kM.heap hrow (NoB.not _)) (StrsAt.keep.k kM (fun _ _ h => h.elim) hM0 hst1') (StrsAt.keep.k kM (fun _ _ h => h.elim) hM0 hst2)
                              (.record (lv := []) (f := fun _ => .nilIface) (an := fun _ => none) (KMap.made wr) (fun h => by have := HSz.out; rcases h with h | h | h <;> omega) (by simp) rfl (fun _ _ _ h => by simp at h) (fun _ _ _ h => by simp at h)) (HSz.out) hbd (by omega) (by omega) (by omega)
                            refine ⟨_, some (l1, l2, []), h1, rfl, h2, ?_⟩
                            rw [ht2]
                            obtain rfl : some [] = cc := by simpa [resCtx] using hcc
                            rfl
                        · obtain ⟨hSr, hctr⟩ := HCX.out
                          obtain ⟨rs, hrs, hcs⟩ : ∃ rs, resTy V fuel ns ta = some rs ∧ cc = rs.bind (fun r => match r with | .record l => some l | _ => none) := by
                            have h1 := HF4.out.2.2.2.2.2.2.2.2.1
                            unfold resCtx at h1
                            simp only [Option.map_eq_some_iff] at h1
                            obtain ⟨rs, h1, h2⟩ := h1
                            exact ⟨rs, h1, h2.symm⟩
                          have HCR := Lib.hid (resType_c b mE mN mC V fuel wr MR ns ta _ rs hSr hctr hns hrs)
                          have HCS := Lib.hid (And.intro hcs ha0)
                          clear hSr hctr hrs hcs ha0
                          go_wp2_with fail
                          refine HCR.out.mono ?_
                          rintro e w5 ⟨hout, k5⟩
                          clear f3 f4
                          cases rs with
                          | none =>
                            obtain ⟨x, a, rfl⟩ : ∃ x a, e = _ := hout
                            have HQ := Lib.hid k5
                            clear k5
                            go_wp2_with fail
                            go_ret
                            obtain ⟨hLr, hrow, hst1', hst2, hkw, hdlt, hmlt, hbd, hcc, ht2, hsr, hres, hrt, hpm, kw, hQc, g8⟩ := HF4.out
                            refine ⟨.inl ⟨⟨a, rfl⟩, _, hpm, ?_⟩, (kw.then hkw).then HQ.out⟩
                            show resAct V fuel ns pk (AA pk) = some none
                            rw [hres, hrt, HCS.out.1]; rfl
                          | some rt =>
                            obtain ⟨vt, rfl, ⟨Tt, xt, rfl⟩, hrt5⟩ : ∃ vt, e = _ ∧ _ := hout
                            by_cases hrec : ∃ l, rt = .record l
                            · obtain ⟨l, rfl⟩ := hrec
                              obtain ⟨mb, hTt, hxt⟩ : ∃ mb, Tt = 75 ∧ xt = .map (some mb) := by cases hrt5; exact ⟨_, rfl, rfl⟩
                              subst hTt hxt
                              have ty := taY_rRec (.map (some mb))
                              obtain ⟨hLr, hrow, hst1', hst2, hkw, hdlt, hmlt, hbd, hcc, ht2, hsr, hres, hrt, hpm, kw, hQc, g8⟩ := HF4.out
                              have hrowM := k5.heap hrow (NoB.not _)
                              have e2 : w5.cell? ⟨a0, 2, none⟩ = some (.map none) := by rw [cell_cells hrowM]; rfl
                              have z2 := frozen_cells hrowM 2
                              have ha0 := HCS.out.2
                              have kM2 := Keep.setCell (M := (· = a0)) w5 ⟨a0, 2, none⟩ (.map (some mb)) (fun _ => rfl)
                              have g8' := kM2.heap (k5.heap g8 (NoB.not _)) (by omega)
                              have e8 : (w5.setCell ⟨a0, 2, none⟩ (.map (some mb))).cell? ⟨d, 8, none⟩ = some (.pointer none) := by rw [cell_cells g8']; rfl
                              have z8 := frozen_cells g8' 8
                              have HQ := Lib.hid (And.intro k5 hrt5)
                              clear hLr hrow hst1' hst2 hkw hdlt hmlt hbd hcc ht2 hsr hres hrt hpm kw hQc g8 hrowM kM2 g8' ha0 k5 hrt5
                              go_wp2_with fail
                              go_meet
                              case rel =>
                                obtain ⟨hLr, hrow, hst1', hst2, hkw, hdlt, hmlt, hbd, hcc, ht2, hsr, hres, hrt, hpm, kw, hQc, g8⟩ := HF4.out
                                have ha0 := HA00.out
                                obtain ⟨k5, hrt5⟩ := HQ.out
                                have hM0 : ∀ i, i < wr.heap.size → (i < w'.heap.size ∨ i = a0 ∨ i = d) → (i < w'.heap.size ∨ i = a0 ∨ i = d) := fun _ _ h => h
                                obtain ⟨h1, h2⟩ := fin_to (B := w'.heap.size) (mb := mb) (l := l) (hLr.keepM k5 (NoB.not _) (NoB.not _) (fun _ _ => NoB.not _)) (k5.heap hrow (NoB.not _)) (StrsAt.keep.k k5 (fun _ _ h => h.elim) hM0 hst1') (StrsAt.keep.k k5 (fun _ _ h => h.elim) hM0 hst2)
                                  (RTyIs.keep (Keep.refl NoB w5) (fun _ _ h => h.elim) (fun i hi h => by have := HSz.out; show i < _; rcases h with h | h | h <;> omega) hrt5) (HSz.out) hbd (by omega) (by omega) (by omega)
                                refine ⟨_, some (l1, l2, l), h1, rfl, h2, ?_⟩
                                rw [ht2, HCS.out.1]; rfl
                            · have hTt := RTyIs.notRec hrt5 (fun l h => hrec ⟨l, h⟩)
                              have tn := taN_rRec Tt hTt xt
                              have HQ := Lib.hid (And.intro k5 hrec)
                              clear k5 hrt5 hTt hrec
                              go_wp2_with (go_at_call 76; refine (errorsNew_c _ _).mono ?_; rintro e w' ⟨a, rfl, hk⟩)
                              go_ret
                              obtain ⟨hLr, hrow, hst1', hst2, hkw, hdlt, hmlt, hbd, hcc, ht2, hsr, hres, hrt, hpm, kw, hQc, g8⟩ := HF4.out
                              obtain ⟨k5, hrec⟩ := HQ.out
                              refine ⟨.inl ⟨⟨a, rfl⟩, _, hpm, ?_⟩, ((kw.then hkw).then k5).then hk⟩
                              show resAct V fuel ns pk (AA pk) = some none
                              rw [hres, hrt, HCS.out.1]
                              cases rt <;> first | rfl | exact absurd ⟨_, rfl⟩ hrec
            case rest =>
              obtain ⟨wQ, rfl⟩ : ∃ wQ : World, wQ = wr := ⟨_, rfl⟩
              obtain ⟨tp, x, hL2, hone, hto2, hres2⟩ := hcut
              have HL2 := Lib.hid (And.intro hL2 (And.intro hone (And.intro hto2 hres2)))
              clear hL2 hone hto2 hres2 f2
              go_wp2_with fail
              refine still_tail 6 (by kernel_rfl) (by kernel_rfl) (fun w2 hw2 => ?_)
              obtain ⟨hL2, hone, hto2, hres2⟩ := HL2.out
              obtain ⟨hp, hit', hk', hpm, hne, hsl, hsz', kw, c3', hS', hres, hsz, hto⟩ := HP.out
              have kd : Keep NoB wc w2 := hw2 ▸ Keep.drew _ _
              have kQ := hL2.keep.then kd
              have ka : Keep NoB w' w2 := (HB.out.1.then HX.out.1).then kQ
              have c3 := ka.cell c3' (NoB.not _)
              obtain ⟨lv, hm, hr⟩ := HF.out.2.1.map' RActIs.keep hk' ka
              obtain ⟨ob, hupd0, hm3⟩ := hm.update kU Tryz.underlying82 (actU ns pk) (.agg #[.string (actU ns pk).1, .string (actU ns pk).2, .map (some m), .map none, .int .u64 0, .map none, .int .u64 0, .map an, tp])
              have hupd : (Instr.mapUpdate 82 (.map (some oA)) (.agg #[.string (actionTy ns), .string pk]) (.agg #[.string (actionTy ns), .string pk, .map (some m), .map none, .int .u64 0, .map none, .int .u64 0, .map an, tp])).run Tryz.prog w2 = .ok () (ChangeMaps.setBlock w2 oA ob) := hupd0
              have hrow2 := kd.heap hL2.row (NoB.not _)
              obtain ⟨u0, u1, _, _⟩ := HQ4.out w2 kQ
              obtain ⟨e0, e1, e2, e3, e4, e5, e6, e7, e8, _, _, _, _, _, _, _, _, _⟩ := cells9 hrow2
              have HE := Lib.hid (And.intro ka (And.intro hm (And.intro hr (And.intro hm3 (And.intro kd hrow2)))))
              clear hw2 hp hit' hk' hpm hsl hsz' kw c3' hne hS' hres hsz hto hL2 hone hto2 hres2 kd kQ ka hm hr hm3 hrow2 hupd0
              unfold actU at e0 e1
              dsimp only at e0 e1
              simp only [List.take_succ_cons, List.take_zero, List.drop_succ_cons, List.drop_zero]
              repeat still_step
              refine wpStill_nil ?_
              go_wp2_with fail
              go_roundg lf.length
              case measure =>
                have h1 := HP.out.1.length_eq
                have h2 := HF.out.1
                rw [List.length_cons] at h1; omega
              case rel =>
                obtain ⟨ka, hm, hr, hm3, kd, hrow2⟩ := HE.out
                obtain ⟨hp, hit', hk', hpm, hne, hsl, hsz', kw, c3', hS', hres, hsz, hto⟩ := HP.out
                obtain ⟨hL2, hone, hto2, hres2⟩ := HL2.out
                have hR : resAct V fuel ns pk (AA pk) = some (some ⟨actU ns pk, P, x⟩) := by
                  unfold resAct
                  rw [hres2, HX.out.2.1]; rfl
                have hr0 : w.heap.size < w'.heap.size := by have := HF.out.2.1.it.lt; omega
                have hMle : ∀ i, (MR i ∨ i = w.heap.size) → i < w'.heap.size := fun i h => by
                  rcases h with h | h
                  · have := HA.out.2.2.2.2.2.2.2.2 i h; omega
                  · omega
                have hml : w'.heap.size ≤ m := by have h1 := HB.out.1.size; have h2 := HX.out.1.size; have h3 := hL2.hm; omega
                have hfin : RActIs w2 (fun i => MR i ∨ i = w.heap.size) ⟨actU ns pk, P, x⟩ (.agg #[.string (actU ns pk).1, .string (actU ns pk).2, .map (some m), .map none, .int .u64 0, .map none, .int .u64 0, .map an, tp]) := by
                  obtain ⟨lm, h1, h2⟩ := hL2.set
                  exact ⟨an, .map (some m), tp, rfl, ⟨m, lm, rfl, fun h => by have := hMle m h; omega, h1.keep kd (NoB.not _), h2⟩, RTo.keep.k kd (fun _ _ h => h.elim) (fun i _ h => hMle i h) hto2⟩
                refine ⟨lf, _, rfl, HF.out.2.1.step RActIs.keep (fun h => actU_inj h) hp hit' hk' ka hm hr (v := .agg #[.string (actU ns pk).1, .string (actU ns pk).2, .map (some m), .map none, .int .u64 0, .map none, .int .u64 0, .map an, tp]) (by rw [hR]; exact hfin) HA.out.2.2.2.1 hm3, fun p hpl hpn => ?_⟩
                by_cases hpe : p.1 = pk
                · rw [hpe]; exact ⟨_, hR⟩
                · exact HF.out.2.2 p hpl (fun h => by
                    have h2 := (hp.map (·.1)).mem_iff.1 h
                    simp only [List.map_cons, List.mem_cons] at h2
                    exact h2.elim hpe hpn)
end Go.Proofs.YtedgonoeeeiilaaGreatDoor
