/- Rws, AcS, AcD: joined. -/
import Derived.Test.YtedgonoeeeiilaaGreatDoorJMean
import Derived.Test.YtedgonoeeeiilaaGreatDoorAcP
import Derived.Test.YtedgonoeeeiilaaGreatDoorJAk
/- Several slices of a call's own side by side, no two in one block; no program in sight. -/
namespace Go.Proofs.YtedgonoeeeiilaaGreatDoor
open Go.RowKit

/-- A slice of the call's own: its elements' type and size, its value, length and cells. -/
structure RowD where
  E : TypeId
  size : Nat
  v : Value
  n : Nat
  xs : List Value
def RowsO (w : World) (base : Nat) (L : List RowD) : Prop := (∀ r ∈ L, w.ownsRow base r.E r.size r.v r.n r.xs) ∧ L.Pairwise (fun a b => ∀ i, OB a.v i → ¬ OB b.v i)
theorem RowsO.nils (w : World) (base : Nat) {L : List RowD} (h : ∀ r ∈ L, r.v = .slice none 0 0 ∧ r.n = 0 ∧ r.xs = []) : RowsO w base L := by
  refine ⟨fun r hr => ?_, ?_⟩
  · obtain ⟨h1, h2, h3⟩ := h r hr
    rw [h1, h2, h3]
    exact World.ownsRow_nil _ _ _ _
  · refine List.Pairwise.imp_of_mem (fun {a b} ha _ _ i hi => ?_) (List.pairwise_of_forall (R := fun _ _ => True) (fun _ _ => trivial))
    rw [(h a ha).1] at hi
    cases hi
theorem RowsO.keep {w w' : World} {base : Nat} {L : List RowD} {M : Nat → Prop} (h : RowsO w base L) (k : Keep M w w') (hM : ∀ i, M i → i < base) : RowsO w' base L :=
  ⟨fun r hr => (h.1 r hr).keep k fun i hi hm => by have := hM i hm; omega, h.2⟩
theorem RowsO.keep0 {w w' : World} {base : Nat} {L : List RowD} (h : RowsO w base L) (k : Keep NoB w w') : RowsO w' base L := h.keep k fun _ h => h.elim
theorem RowsO.lt {w : World} {base : Nat} {L : List RowD} (h : RowsO w base L) {r : RowD} (hr : r ∈ L) : ∀ i, OB r.v i → base ≤ i ∧ i < w.heap.size := fun i hi => World.ownsRow.lt (h.1 r hr) i hi
/-- One of them grows. -/
theorem RowsO.grow {w w' : World} {base g : Nat} {A B : List RowD} {r r' : RowD} (h : RowsO w base (A ++ r :: B)) (hown : w'.ownsRow base r'.E r'.size r'.v r'.n r'.xs) (hg : w.grownBy w' r.v.ownBlock) (hv : r'.v.ownBlock = some g) (hat : r.v.ownBlock = some g ∨ g = w.heap.size) :
    RowsO w' base (A ++ r' :: B) := by
  obtain ⟨h1, h2⟩ := h
  rw [List.pairwise_append, List.pairwise_cons] at h2
  obtain ⟨hA, ⟨hrB, hB⟩, hAB⟩ := h2
  have hne : ∀ q : RowD, (∀ i, OB q.v i → ¬ OB r.v i) → q.v.ownBlock = none ∨ q.v.ownBlock ≠ r.v.ownBlock := fun q hq => by
    cases hb : q.v.ownBlock with
    | none => exact .inl rfl
    | some k => exact .inr fun e => hq k hb e.symm
  have hat' : ∀ q ∈ A ++ B, (∀ i, OB q.v i → ¬ OB r.v i) → ∀ i, OB q.v i → ¬ OB r'.v i := fun q hq hd i hi hi' => by
    have e : some g = some i := hv.symm.trans hi'
    cases e
    rcases hat with h | h
    · exact hd g hi h
    · have := World.ownsRow.lt (h1 q (by rcases List.mem_append.1 hq with h | h <;> simp [h])) g hi
      omega
  have dA : ∀ q ∈ A, ∀ i, OB q.v i → ¬ OB r.v i := fun q hq => hAB q hq r (by simp)
  have dB : ∀ q ∈ B, ∀ i, OB q.v i → ¬ OB r.v i := fun q hq i hi hr => hrB q hq i hr hi
  refine ⟨fun q hq => ?_, ?_⟩
  · rcases List.mem_append.1 hq with hq | hq
    · exact (h1 q (by simp [hq])).kept hg (hne q (dA q hq))
    · rcases List.mem_cons.1 hq with rfl | hq
      · exact hown
      · exact (h1 q (by simp [hq])).kept hg (hne q (dB q hq))
  · rw [List.pairwise_append, List.pairwise_cons]
    refine ⟨hA, ⟨fun q hq i hi hi' => hat' q (by simp [hq]) (dB q hq) i hi' hi, hB⟩, fun q hq t ht => ?_⟩
    rcases List.mem_cons.1 ht with rfl | ht
    · exact hat' q (by simp [hq]) (dA q hq)
    · exact hAB q hq t (by simp [ht])
/-- All of it lies from the base on. -/
theorem RowsO.grow_keep {w w' : World} {base : Nat} {L : List RowD} (h : RowsO w base L) {r : RowD} (hr : r ∈ L) (hg : w.grownBy w' r.v.ownBlock) : Keep (fun i => base ≤ i) w w' :=
  (Keep.grown hg fun _ hi _ => hi : Keep (OB r.v) w w').mono fun _ _ hi => (h.lt hr _ hi).1
/-- A row of cells, read off. -/
theorem RowsO.cells {w : World} {base : Nat} {L : List RowD} (h : RowsO w base L) {r : RowD} (hr : r ∈ L) : ∃ ov c, r.v = .slice ov r.n c ∧ (r.n = 0 ∨ ∃ b, ov = some ⟨b, 0, none⟩ ∧ base ≤ b ∧ ∀ j u, r.xs[j]? = some u → w.cell? ⟨b, j, none⟩ = some u) := by
  have h3 := h.1 r hr
  have hcells := @World.ownsRow.cells _ _ _ _ _ _ _ h3
  rcases h3.2 with ⟨e, h0⟩ | ⟨g, cap, cur, e, hb, _⟩
  · exact ⟨none, 0, by rw [e, h0], .inl h0⟩
  · refine ⟨_, _, e, .inr ⟨g, rfl, hb, fun j u hu => ?_⟩⟩
    have := hcells (g := g) (by rw [e]; rfl) j u hu
    rw [show (⟨g, 0, none⟩ : Addr).add j = ⟨g, j, none⟩ by unfold Addr.add; split <;> simp_all] at this
    exact this
end Go.Proofs.YtedgonoeeeiilaaGreatDoor
/- FnResolveAction: the memory of the law's loop. -/
namespace Go.Proofs.YtedgonoeeeiilaaGreatDoor
open Go.RowKit

/-- An entity type's cells that has nothing but a name. -/
def entZ (x : Str) : List Value := [.string x, .slice none 0 0, .slice none 0 0, .bool false, .int .i64 0, .string ⟨#[]⟩, .slice none 0 0, .slice none 0 0]
def entsZ (l : List Str) : List Value := (l.map entZ).flatten
def strsZ (l : List Str) : List Value := l.map Value.string
def rowE (l : List Str) (v : Value) : RowD := ⟨53, 8, v, l.length, entsZ l⟩
def rowS (l : List Str) (v : Value) : RowD := ⟨9, 1, v, l.length, strsZ l⟩
theorem entsZ_snoc (l : List Str) (x : Str) : entsZ (l ++ [x]) = entsZ l ++ entZ x := by unfold entsZ; simp
theorem strsZ_snoc (l : List Str) (x : Str) : strsZ (l ++ [x]) = strsZ l ++ [.string x] := by unfold strsZ; simp
theorem entsZ_at : ∀ (l : List Str) (i : Nat) (x : Str), l[i]? = some x → ∀ j v, (entZ x)[j]? = some v → (entsZ l)[i * 8 + j]? = some v := fun l i x hx j v hv => by
  unfold entsZ
  rw [flatten_at (n := 8) (fun cs h => by obtain ⟨y, _, rfl⟩ := List.mem_map.1 h; rfl) i j (entZ x) (by rw [List.getElem?_map, hx]; rfl) (by have := (List.getElem?_eq_some_iff.1 hv).1; exact this)]
  exact hv

/-- The four structs that the law fills, and their six slices. -/
structure AcSt (w1 : World) (nm ty s : Str) (rE rW rP rR rp rr : RowD) (wr : World) : Prop where
  rows : RowsO wr (w1.heap.size + 4) [rE, rW, rP, rR, rp, rr]
  bX : wr.heap[w1.heap.size]? = some (.cells #[.string nm, .slice none 0 0, .bool true, rP.v, rR.v, .int .i64 0, .string ⟨#[]⟩, .slice none 0 0, .slice none 0 0] 32 (0, 0))
  bM : wr.heap[w1.heap.size + 1]? = some (.cells #[.string ty, .string nm, .slice none 0 0, .bool true, rp.v, rr.v, .slice none 0 0] 48 (0, 0))
  bN : wr.heap[w1.heap.size + 2]? = some (.cells #[.string s, rE.v, .slice none 0 0, .slice none 0 0, .slice none 0 0] 44 (0, 0))
  bR : wr.heap[w1.heap.size + 3]? = some (.cells #[rW.v, .slice none 0 0, .slice none 0 0] 39 (0, 0))
  keep : Keep NoB w1 wr
section
variable {w1 wr w8 : World} {nm ty s : Str} {rE rW rP rR rp rr rE' rW' rP' rR' rp' rr' : RowD}
theorem AcSt.size (h : AcSt w1 nm ty s rE rW rP rR rp rr wr) : w1.heap.size + 4 ≤ wr.heap.size := (Array.getElem?_eq_some_iff.1 h.bR).1
theorem AcSt.keep0 (h : AcSt w1 nm ty s rE rW rP rR rp rr wr) (k : Keep NoB wr w8) : AcSt w1 nm ty s rE rW rP rR rp rr w8 :=
  ⟨h.rows.keep0 k, k.heap h.bX (NoB.not _), k.heap h.bM (NoB.not _), k.heap h.bN (NoB.not _), k.heap h.bR (NoB.not _), h.keep.then k⟩
/-- The blocks of the structs, where only blocks of rows turn. -/
structure AcBl (w1 : World) (nm ty s : Str) (vE vW vP vR vp vr : Value) (x : World) : Prop where
  bX : x.heap[w1.heap.size]? = some (.cells #[.string nm, .slice none 0 0, .bool true, vP, vR, .int .i64 0, .string ⟨#[]⟩, .slice none 0 0, .slice none 0 0] 32 (0, 0))
  bM : x.heap[w1.heap.size + 1]? = some (.cells #[.string ty, .string nm, .slice none 0 0, .bool true, vp, vr, .slice none 0 0] 48 (0, 0))
  bN : x.heap[w1.heap.size + 2]? = some (.cells #[.string s, vE, .slice none 0 0, .slice none 0 0, .slice none 0 0] 44 (0, 0))
  bR : x.heap[w1.heap.size + 3]? = some (.cells #[vW, .slice none 0 0, .slice none 0 0] 39 (0, 0))
theorem AcSt.blocks (h : AcSt w1 nm ty s rE rW rP rR rp rr wr) (k : Keep (fun i => w1.heap.size + 4 ≤ i) wr w8) : AcBl w1 nm ty s rE.v rW.v rP.v rR.v rp.v rr.v w8 :=
  ⟨k.heap h.bX (by omega), k.heap h.bM (by omega), k.heap h.bN (by omega), k.heap h.bR (by omega)⟩
theorem AcSt.late (h : AcSt w1 nm ty s rE rW rP rR rp rr wr) (k : Keep (fun i => w1.heap.size + 4 ≤ i) wr w8) : Keep NoB w1 w8 :=
  h.keep.trans k (fun _ _ h => h) (fun i hi h => by omega)
theorem AcSt.stepE (h : AcSt w1 nm ty s rE rW rP rR rp rr wr) (k : Keep (fun i => w1.heap.size + 4 ≤ i) wr w8) (hr : RowsO w8 (w1.heap.size + 4) [rE', rW, rP, rR, rp, rr]) :
    AcSt w1 nm ty s rE' rW rP rR rp rr (w8.setCell ⟨w1.heap.size + 2, 1, none⟩ rE'.v) := by
  have hb := h.blocks k
  have ks : Keep (· = w1.heap.size + 2) w8 (w8.setCell ⟨w1.heap.size + 2, 1, none⟩ rE'.v) := Keep.setCell _ _ _ (fun _ => rfl)
  exact ⟨hr.keep ks (fun i h => by omega), ks.heap hb.bX (by omega), ks.heap hb.bM (by omega), setCell_cells hb.bN 1 _, ks.heap hb.bR (by omega), keepLate (h.late k) (by omega)⟩
theorem AcSt.stepW (h : AcSt w1 nm ty s rE rW rP rR rp rr wr) (k : Keep (fun i => w1.heap.size + 4 ≤ i) wr w8) (hr : RowsO w8 (w1.heap.size + 4) [rE, rW', rP, rR, rp, rr]) :
    AcSt w1 nm ty s rE rW' rP rR rp rr (w8.setCell ⟨w1.heap.size + 3, 0, none⟩ rW'.v) := by
  have hb := h.blocks k
  have ks : Keep (· = w1.heap.size + 3) w8 (w8.setCell ⟨w1.heap.size + 3, 0, none⟩ rW'.v) := Keep.setCell _ _ _ (fun _ => rfl)
  exact ⟨hr.keep ks (fun i h => by omega), ks.heap hb.bX (by omega), ks.heap hb.bM (by omega), ks.heap hb.bN (by omega), setCell_cells hb.bR 0 _, keepLate (h.late k) (by omega)⟩
theorem AcSt.stepM (h : AcSt w1 nm ty s rE rW rP rR rp rr wr) (k : Keep (fun i => w1.heap.size + 4 ≤ i) wr w8) (hr : RowsO w8 (w1.heap.size + 4) [rE, rW, rP, rR, rp', rr']) :
    AcSt w1 nm ty s rE rW rP rR rp' rr' ((w8.setCell ⟨w1.heap.size + 1, 4, none⟩ rp'.v).setCell ⟨w1.heap.size + 1, 5, none⟩ rr'.v) := by
  have hb := h.blocks k
  have ks : Keep (· = w1.heap.size + 1) w8 ((w8.setCell ⟨w1.heap.size + 1, 4, none⟩ rp'.v).setCell ⟨w1.heap.size + 1, 5, none⟩ rr'.v) := (Keep.setCell (M := (· = w1.heap.size + 1)) _ _ _ (fun _ => rfl)).trans (Keep.setCell (M := (· = w1.heap.size + 1)) _ _ _ (fun _ => rfl)) (fun _ _ h => h) (fun _ _ h => h)
  exact ⟨hr.keep ks (fun i h => by omega), ks.heap hb.bX (by omega), setCell_cells (setCell_cells hb.bM 4 _) 5 _, ks.heap hb.bN (by omega), ks.heap hb.bR (by omega), keepLate (keepLate (h.late k) (by omega)) (by omega)⟩
theorem AcSt.stepX (h : AcSt w1 nm ty s rE rW rP rR rp rr wr) (k : Keep (fun i => w1.heap.size + 4 ≤ i) wr w8) (hr : RowsO w8 (w1.heap.size + 4) [rE, rW, rP', rR', rp, rr]) :
    AcSt w1 nm ty s rE rW rP' rR' rp rr ((w8.setCell ⟨w1.heap.size, 3, none⟩ rP'.v).setCell ⟨w1.heap.size, 4, none⟩ rR'.v) := by
  have hb := h.blocks k
  have ks : Keep (· = w1.heap.size) w8 ((w8.setCell ⟨w1.heap.size, 3, none⟩ rP'.v).setCell ⟨w1.heap.size, 4, none⟩ rR'.v) := (Keep.setCell (M := (· = w1.heap.size)) _ _ _ (fun _ => rfl)).trans (Keep.setCell (M := (· = w1.heap.size)) _ _ _ (fun _ => rfl)) (fun _ _ h => h) (fun _ _ h => h)
  exact ⟨hr.keep ks (fun i h => by omega), setCell_cells (setCell_cells hb.bX 3 _) 4 _, ks.heap hb.bM (by omega), ks.heap hb.bN (by omega), ks.heap hb.bR (by omega), keepLate (keepLate (h.late k) (by omega)) (by omega)⟩
end
/-- A cell and whether it is frozen, of a block that is known. -/
theorem cellz {w : World} {b : Nat} {cs : Array Value} {T : TypeId} (h : w.heap[b]? = some (.cells cs T (0, 0))) (i : Nat) (v : Value) (hv : cs[i]? = some v) : w.cell? ⟨b, i, none⟩ = some v ∧ w.frozen? ⟨b, i, none⟩ = false :=
  ⟨by rw [cell_cells h]; exact hv, frozen_cells h i⟩
theorem growE {W w8 : World} {base g cap n H : Nat} {A B : List RowD} {l : List Str} {v : Value} {x : Str} (h : RowsO W base (A ++ rowE l v :: B)) (hn : l.length = n) (hown : w8.ownsRow base 53 8 (.slice (some ⟨g, 0, none⟩) (n + 1) cap) (n + 1) (entsZ l ++ entZ x)) (hg : W.grownBy w8 v.ownBlock) (hat : v.ownBlock = some g ∨ g = H) (hH : W.heap.size = H) :
    RowsO w8 base (A ++ rowE (l ++ [x]) (.slice (some ⟨g, 0, none⟩) (n + 1) cap) :: B) ∧ Keep (fun i => base ≤ i) W w8 := by
  refine ⟨h.grow ?_ hg rfl (hH ▸ hat), h.grow_keep (r := rowE l v) (by simp) hg⟩
  show w8.ownsRow base _ 8 _ (l ++ [x]).length (entsZ (l ++ [x]))
  rw [entsZ_snoc, List.length_append, hn]
  exact hown
theorem growS {W w8 : World} {base g cap n H : Nat} {A B : List RowD} {l : List Str} {v : Value} {x : Str} (h : RowsO W base (A ++ rowS l v :: B)) (hn : l.length = n) (hown : w8.ownsRow base 9 1 (.slice (some ⟨g, 0, none⟩) (n + 1) cap) (n + 1) (strsZ l ++ [.string x])) (hg : W.grownBy w8 v.ownBlock) (hat : v.ownBlock = some g ∨ g = H) (hH : W.heap.size = H) :
    RowsO w8 base (A ++ rowS (l ++ [x]) (.slice (some ⟨g, 0, none⟩) (n + 1) cap) :: B) ∧ Keep (fun i => base ≤ i) W w8 := by
  refine ⟨h.grow ?_ hg rfl (hH ▸ hat), h.grow_keep (r := rowS l v) (by simp) hg⟩
  show w8.ownsRow base _ 1 _ (l ++ [x]).length (strsZ (l ++ [x]))
  rw [strsZ_snoc, List.length_append, hn]
  exact hown
theorem RowsO.own {w : World} {base : Nat} {A B : List RowD} {r : RowD} (h : RowsO w base (A ++ r :: B)) : w.ownsRow base r.E r.size r.v r.n r.xs := h.1 r (by simp)
theorem RowsO.shape {w : World} {base : Nat} {A B : List RowD} {r : RowD} (h : RowsO w base (A ++ r :: B)) : ∃ ov c, r.v = .slice ov r.n c := by
  obtain ⟨ov, c, e, _⟩ := h.cells (r := r) (by simp)
  exact ⟨ov, c, e⟩
theorem RowsO.own_lt {w : World} {base : Nat} {A B : List RowD} {r : RowD} (h : RowsO w base (A ++ r :: B)) : ∀ i, OB r.v i → base ≤ i ∧ i < w.heap.size := h.lt (by simp)
theorem ownE {w : World} {base n : Nat} {A B : List RowD} {l : List Str} {v : Value} (h : RowsO w base (A ++ rowE l v :: B)) (hn : l.length = n) : w.ownsRow base 53 8 v n (entsZ l) := hn ▸ h.own
theorem ownS {w : World} {base n : Nat} {A B : List RowD} {l : List Str} {v : Value} (h : RowsO w base (A ++ rowS l v :: B)) (hn : l.length = n) : w.ownsRow base 9 1 v n (strsZ l) := hn ▸ h.own
theorem alloc_one (W : World) (v : Value) (T : TypeId) : (W.alloc (.cells #[v] T)).cell? ⟨W.heap.size, 0, none⟩ = some v := by rw [cell_cells (MapKept.heap_alloc W _).1]; rfl
theorem one_new {X : World} {b : Nat} {v : Value} (h : X.cell? ⟨b, 0, none⟩ = some v) : ∀ j u, [v][j]? = some u → X.cell? ((⟨b, 0, none⟩ : Addr).add j) = some u := fun j u hu => by
  match j, hu with
  | 0, hu =>
    simp only [List.getElem?_cons_zero, Option.some.injEq] at hu
    subst hu
    exact h
abbrev acO1 (nm : Str) : Obj := .cells #[.string nm, .slice none 0 0, .bool true, .slice none 0 0, .slice none 0 0, .int .i64 0, .string ⟨#[]⟩, .slice none 0 0, .slice none 0 0] 32
abbrev acO2 (ty nm : Str) : Obj := .cells #[.string ty, .string nm, .slice none 0 0, .bool true, .slice none 0 0, .slice none 0 0, .slice none 0 0] 48
abbrev acO3 (s : Str) : Obj := .cells #[.string s, .slice none 0 0, .slice none 0 0, .slice none 0 0, .slice none 0 0] 44
abbrev acO4 : Obj := .cells #[.slice none 0 0, .slice none 0 0, .slice none 0 0] 39
theorem ac_start (w1 : World) (nm ty s : Str) : AcSt w1 nm ty s (rowE [] (.slice none 0 0)) (rowE [] (.slice none 0 0)) (rowS [] (.slice none 0 0)) (rowS [] (.slice none 0 0)) (rowS [] (.slice none 0 0)) (rowS [] (.slice none 0 0)) ((((w1.alloc (acO1 nm)).alloc (acO2 ty nm)).alloc (acO3 s)).alloc acO4) := by
  obtain ⟨a, ha⟩ : ∃ a, a = w1.alloc (acO1 nm) := ⟨_, rfl⟩
  obtain ⟨b, hb⟩ : ∃ b, b = a.alloc (acO2 ty nm) := ⟨_, rfl⟩
  obtain ⟨c, hc⟩ : ∃ c, c = b.alloc (acO3 s) := ⟨_, rfl⟩
  obtain ⟨d, hd⟩ : ∃ d, d = c.alloc acO4 := ⟨_, rfl⟩
  rw [← ha, ← hb, ← hc, ← hd]
  have sa : a.heap.size = w1.heap.size + 1 := by rw [ha, World.size_alloc]
  have sb : b.heap.size = w1.heap.size + 2 := by rw [hb, World.size_alloc, sa]
  have sc : c.heap.size = w1.heap.size + 3 := by rw [hc, World.size_alloc, sb]
  have ka : Keep NoB w1 a := ha ▸ Keep.alloc _ _ _
  have kb : Keep NoB a b := hb ▸ Keep.alloc _ _ _
  have kc : Keep NoB b c := hc ▸ Keep.alloc _ _ _
  have kd : Keep NoB c d := hd ▸ Keep.alloc _ _ _
  have h1 := ha ▸ (MapKept.heap_alloc w1 (acO1 nm)).1
  have h2 := hb ▸ (MapKept.heap_alloc a (acO2 ty nm)).1
  have h3 := hc ▸ (MapKept.heap_alloc b (acO3 s)).1
  have h4 := hd ▸ (MapKept.heap_alloc c acO4).1
  rw [sa] at h2
  rw [sb] at h3
  rw [sc] at h4
  exact ⟨RowsO.nils _ _ (by simp [rowE, rowS, entsZ, strsZ]), ((kb.then kc).then kd).heap h1 (NoB.not _), (kc.then kd).heap h2 (NoB.not _), kd.heap h3 (NoB.not _), h4, ((ka.then kb).then kc).then kd⟩
end Go.Proofs.YtedgonoeeeiilaaGreatDoor
/- FnResolveAction: what the law hands over, and what it compares with. -/
namespace Go.Proofs.YtedgonoeeeiilaaGreatDoor
open Go.RowKit

/-! ### behind the loop -/
/-- The action is laid. -/
structure AcA (w1 : World) (nm ty s : Str) (rE rW rP rR rp rr : RowD) (b9 : Nat) (x : World) : Prop where
  rows : RowsO x (w1.heap.size + 4) [rE, rW, rP, rR, rp, rr]
  bA : x.heap[b9]? = some (.cells #[.string nm, .slice none 0 0, .bool true, rP.v, rR.v, .int .i64 0, .string ⟨#[]⟩, .slice none 0 0, .slice none 0 0] 32 (0, 0))
  bM : x.heap[w1.heap.size + 1]? = some (.cells #[.string ty, .string nm, .slice none 0 0, .bool true, rp.v, rr.v, .slice none 0 0] 48 (0, 0))
  bN : x.heap[w1.heap.size + 2]? = some (.cells #[.string s, rE.v, .slice none 0 0, .slice (some ⟨b9, 0, none⟩) 1 1, .slice none 0 0] 44 (0, 0))
  bR : x.heap[w1.heap.size + 3]? = some (.cells #[rW.v, .slice none 0 0, .slice none 0 0] 39 (0, 0))
  keep : Keep NoB w1 x
/-- And its meaning. -/
structure AcB (w1 : World) (nm ty s : Str) (rE rW rP rR rp rr : RowD) (b9 b7 : Nat) (x : World) : Prop where
  rows : RowsO x (w1.heap.size + 4) [rE, rW, rP, rR, rp, rr]
  bA : x.heap[b9]? = some (.cells #[.string nm, .slice none 0 0, .bool true, rP.v, rR.v, .int .i64 0, .string ⟨#[]⟩, .slice none 0 0, .slice none 0 0] 32 (0, 0))
  bB : x.heap[b7]? = some (.cells #[.string ty, .string nm, .slice none 0 0, .bool true, rp.v, rr.v, .slice none 0 0] 48 (0, 0))
  bN : x.heap[w1.heap.size + 2]? = some (.cells #[.string s, rE.v, .slice none 0 0, .slice (some ⟨b9, 0, none⟩) 1 1, .slice none 0 0] 44 (0, 0))
  bR : x.heap[w1.heap.size + 3]? = some (.cells #[rW.v, .slice none 0 0, .slice (some ⟨b7, 0, none⟩) 1 1] 39 (0, 0))
  keep : Keep NoB w1 x
section
variable {w1 wr x : World} {nm ty s : Str} {rE rW rP rR rp rr : RowD} {b9 b7 : Nat}
theorem AcSt.stepA (h : AcSt w1 nm ty s rE rW rP rR rp rr wr) :
    AcA w1 nm ty s rE rW rP rR rp rr wr.heap.size ((wr.alloc (.cells #[.string nm, .slice none 0 0, .bool true, rP.v, rR.v, .int .i64 0, .string ⟨#[]⟩, .slice none 0 0, .slice none 0 0] 32)).setCell ⟨w1.heap.size + 2, 3, none⟩ (.slice (some ⟨wr.heap.size, 0, none⟩) 1 1)) := by
  have hz := h.size
  obtain ⟨y, hy⟩ : ∃ y, y = wr.alloc (.cells #[.string nm, .slice none 0 0, .bool true, rP.v, rR.v, .int .i64 0, .string ⟨#[]⟩, .slice none 0 0, .slice none 0 0] 32) := ⟨_, rfl⟩
  have k : Keep NoB wr y := hy ▸ Keep.alloc _ _ _
  have hb := hy ▸ (MapKept.heap_alloc wr (.cells #[.string nm, .slice none 0 0, .bool true, rP.v, rR.v, .int .i64 0, .string ⟨#[]⟩, .slice none 0 0, .slice none 0 0] 32)).1
  have h' := h.keep0 k
  rw [← hy]
  clear hy
  have ks : Keep (· = w1.heap.size + 2) y (y.setCell ⟨w1.heap.size + 2, 3, none⟩ (.slice (some ⟨wr.heap.size, 0, none⟩) 1 1)) := Keep.setCell _ _ _ (fun _ => rfl)
  exact ⟨h'.rows.keep ks (fun i h => by omega), ks.heap hb (by omega), ks.heap h'.bM (by omega), setCell_cells h'.bN 3 _, ks.heap h'.bR (by omega), keepLate h'.keep (by omega)⟩
theorem AcA.lt (h : AcA w1 nm ty s rE rW rP rR rp rr b9 wr) : b9 < wr.heap.size := (Array.getElem?_eq_some_iff.1 h.bA).1
theorem AcA.size (h : AcA w1 nm ty s rE rW rP rR rp rr b9 wr) : w1.heap.size + 4 ≤ wr.heap.size := (Array.getElem?_eq_some_iff.1 h.bR).1
theorem AcA.stepB (h : AcA w1 nm ty s rE rW rP rR rp rr b9 wr) (hb9 : w1.heap.size + 4 ≤ b9) :
    AcB w1 nm ty s rE rW rP rR rp rr b9 wr.heap.size ((wr.alloc (.cells #[.string ty, .string nm, .slice none 0 0, .bool true, rp.v, rr.v, .slice none 0 0] 48)).setCell ⟨w1.heap.size + 3, 2, none⟩ (.slice (some ⟨wr.heap.size, 0, none⟩) 1 1)) := by
  have hz := h.size
  obtain ⟨y, hy⟩ : ∃ y, y = wr.alloc (.cells #[.string ty, .string nm, .slice none 0 0, .bool true, rp.v, rr.v, .slice none 0 0] 48) := ⟨_, rfl⟩
  have k : Keep NoB wr y := hy ▸ Keep.alloc _ _ _
  have hb := hy ▸ (MapKept.heap_alloc wr (.cells #[.string ty, .string nm, .slice none 0 0, .bool true, rp.v, rr.v, .slice none 0 0] 48)).1
  rw [← hy]
  clear hy
  have ks : Keep (· = w1.heap.size + 3) y (y.setCell ⟨w1.heap.size + 3, 2, none⟩ (.slice (some ⟨wr.heap.size, 0, none⟩) 1 1)) := Keep.setCell _ _ _ (fun _ => rfl)
  exact ⟨(h.rows.keep0 k).keep ks (fun i h => by omega), ks.heap (k.heap h.bA (NoB.not _)) (by omega), ks.heap hb (by omega), ks.heap (k.heap h.bN (NoB.not _)) (by omega), setCell_cells (k.heap h.bR (NoB.not _)) 2 _, keepLate (h.keep.then k) (by omega)⟩
theorem AcB.keep0 (h : AcB w1 nm ty s rE rW rP rR rp rr b9 b7 wr) (k : Keep NoB wr x) : AcB w1 nm ty s rE rW rP rR rp rr b9 b7 x :=
  ⟨h.rows.keep0 k, k.heap h.bA (NoB.not _), k.heap h.bB (NoB.not _), k.heap h.bN (NoB.not _), k.heap h.bR (NoB.not _), h.keep.then k⟩
end

/-! ### rows, read off -/
def eNs (j : Nat) : List Str := (List.range j).map eN
theorem strs_of_row {w : World} {base : Nat} {A B : List RowD} {l : List Str} {v : Value} (h : RowsO w base (A ++ rowS l v :: B)) : StrsAt w NoB l v := by
  obtain ⟨ov, c, e, hc⟩ := h.cells (r := rowS l v) (by simp)
  refine ⟨ov, c, e, ?_⟩
  rcases hc with h0 | ⟨b, e2, _, hc⟩
  · exact .inl h0
  · refine .inr ⟨b, 0, e2, NoB.not _, fun i hi => ⟨rfl, fun j u hu => ?_⟩⟩
    match j, hu with
    | 0, hu =>
      simp only [List.getElem?_cons_zero, Option.some.injEq] at hu
      subst hu
      have h1 : (strsZ l)[i]? = some (.string (l.getD i ⟨#[]⟩)) := by
        unfold strsZ
        rw [List.getElem?_map, List.getElem?_eq_getElem hi, List.getD_eq_getElem?_getD, List.getElem?_eq_getElem hi]; rfl
      have := hc i _ h1
      rw [Nat.zero_add, Nat.mul_one, Nat.add_zero]
      exact this
theorem ents_of_row {w : World} {base : Nat} {A B : List RowD} {l : List Str} {v : Value} (h : RowsO w base (A ++ rowE l v :: B)) :
    ∃ ov c, v = .slice ov l.length c ∧ (l = [] ∨ ∃ b, ov = some ⟨b, 0, none⟩ ∧ base ≤ b ∧ ∀ i x, l[i]? = some x → CellsAt w b (0 + i * 8) (entZ x)) := by
  obtain ⟨ov, c, e, hc⟩ := h.cells (r := rowE l v) (by simp)
  refine ⟨ov, c, e, ?_⟩
  rcases hc with h0 | ⟨b, e2, hb, hc⟩
  · exact .inl (List.eq_nil_of_length_eq_zero h0)
  · refine .inr ⟨b, e2, hb, fun i x hx j u hu => ?_⟩
    have := hc (i * 8 + j) u (entsZ_at l i x hx j u hu)
    rw [Nat.zero_add]
    exact this
theorem oent_empty (w : World) (M : Nat → Prop) : OEntIs w M ⟨[], [], none⟩ (none, 0, 0) (none, 0, 0) 0 ⟨#[]⟩ (none, 0, 0) (none, 0, 0) :=
  ⟨⟨none, 0, rfl, .inl rfl⟩, fun s e' => .record s e' none 0 (fun _ => 0) (fun _ => ⟨#[]⟩) (fun _ => (none, 0, 0)) (fun _ => (none, 0, 0)) (.inl rfl) (fun i k t q h => by simp at h), fun t h => by cases h⟩
theorem acE_eq (n : Nat) : acE n = (eNs n).map fun x => (x, ⟨[], [], none⟩) := by unfold acE eNs; rw [List.map_map]; rfl
theorem acW_eq (b : Bool) (n : Nat) : acW b n = (wNs b n).map fun x => (x, ⟨[], [], none⟩) := by unfold acW wNs; rw [List.map_map]; rfl
theorem given_ents {w : World} {base : Nat} {A B : List RowD} {n : Nat} {v : Value} (hn : n ≤ 5) (h : RowsO w base (A ++ rowE (eNs n) v :: B)) : ∃ oE cE, v = .slice oE n cE ∧ GivenE w (acE n) (oE, n, cE) := by
  obtain ⟨ov, c, e, hc⟩ := ents_of_row h
  have hl : (eNs n).length = n := by unfold eNs; simp
  rw [hl] at e
  refine ⟨ov, c, e, ?_, ?_, acE_nodup hn, fun p hp => ?_, ?_⟩
  · show n = (acE n).length; unfold acE; simp
  · unfold acE; simp; omega
  · obtain ⟨k, hk, rfl⟩ := List.mem_map.1 hp
    have := eN_size k (by have := List.mem_range.1 hk; omega)
    show (eN k).size ≤ _
    omega
  · rcases hc with h0 | ⟨b, e2, _, hc⟩
    · left; rw [acE_eq, h0]; rfl
    · refine .inr ⟨b, 0, e2, fun i nm e hi => ?_⟩
      rw [acE_eq, List.getElem?_map] at hi
      cases hx : (eNs n)[i]? with
      | none => rw [hx] at hi; cases hi
      | some x =>
        rw [hx] at hi
        simp only [Option.map_some, Option.some.injEq, Prod.mk.injEq] at hi
        obtain ⟨rfl, rfl⟩ := hi
        exact ⟨(none, 0, 0), (none, 0, 0), 0, ⟨#[]⟩, (none, 0, 0), (none, 0, 0), hc i x hx, ient_empty _ _ _⟩
theorem row_ents {w : World} {base : Nat} {A B : List RowD} {b : Bool} {n : Nat} {v : Value} (h : RowsO w base (A ++ rowE (wNs b n) v :: B)) : ∃ oW cW, v = .slice oW n cW ∧ RowAt EntC 8 w NoB (acW b n) (oW, n, cW) := by
  obtain ⟨ov, c, e, hc⟩ := ents_of_row h
  have hl : (wNs b n).length = n := by unfold wNs; simp
  rw [hl] at e
  refine ⟨ov, c, e, ?_, ?_⟩
  · show n = (acW b n).length; unfold acW; simp
  · rcases hc with h0 | ⟨b', e2, _, hc⟩
    · left; rw [acW_eq, h0]; rfl
    · refine .inr ⟨b', 0, e2, NoB.not _, fun i p hi => ?_⟩
      rw [acW_eq, List.getElem?_map] at hi
      cases hx : (wNs b n)[i]? with
      | none => rw [hx] at hi; cases hi
      | some x =>
        rw [hx] at hi
        simp only [Option.map_some, Option.some.injEq] at hi
        subst hi
        exact ⟨_, rfl, hc i x hx, (none, 0, 0), (none, 0, 0), 0, ⟨#[]⟩, (none, 0, 0), (none, 0, 0), rfl, oent_empty _ _⟩

/-! ### the namespace -/
section
variable {w1 x : World} {nm ty : Str} {b bare : Bool} {n : Nat} {vE vW vP vR vp vr : Value} {b9 b7 : Nat}
theorem acRefs_size (hn : n ≤ 5) : ∀ p ∈ acRefs b bare n, p.size ≤ 5 := fun p hp => by
  obtain ⟨k, hk, rfl⟩ := List.mem_map.1 hp
  have hk' := List.mem_range.1 hk
  unfold acRef
  split
  · exact eN_size k (by omega)
  · exact wN_size b k (by omega)
theorem ac_all (hn : n ≤ 5) (hnm : nm.size ≤ 50) (h : AcB w1 nm ty (acS b) (rowE (eNs n) vE) (rowE (wNs b n) vW) (rowS (acRefs b bare n) vP) (rowS (acRefs b bare n) vR) (rowS (wNs b n) vp) (rowS (wNs b n) vr) b9 b7 x) {O : Obj} (hO : O = .cells #[.string (acS b), vE, .slice none 0 0, .slice (some ⟨b9, 0, none⟩) 1 1, .slice none 0 0] 44) :
    IAll (x.alloc O) NoB (acL b bare n nm) (acD b bare n nm) (some ⟨x.heap.size, 0, none⟩) := by
  have k1 : Keep NoB x (x.alloc O) := Keep.alloc _ _ _
  have hb := (MapKept.heap_alloc x O).1
  have h' := h.keep0 k1
  obtain ⟨oE, cE, rfl, hE⟩ := given_ents (A := []) hn h'.rows
  have hP := strs_of_row (A := [rowE (eNs n) (.slice oE n cE), rowE (wNs b n) vW]) h'.rows
  have hR := strs_of_row (A := [rowE (eNs n) (.slice oE n cE), rowE (wNs b n) vW, rowS (acRefs b bare n) vP]) h'.rows
  obtain ⟨oP, cP, eP, _⟩ := hP
  obtain ⟨oR, cR, eR, _⟩ := hR
  subst eP eR
  have hA : GivenA (x.alloc O) [(nm, acA b bare n)] (some ⟨b9, 0, none⟩, 1, 1) := by
    refine ⟨rfl, by simp, by simp, fun p hp => ?_, .inr ⟨b9, 0, rfl, fun i m a hi => ?_⟩⟩
    · simp only [List.mem_singleton] at hp
      subst hp
      show nm.size ≤ _; omega
    · match i with
      | 0 =>
        simp only [List.getElem?_cons_zero, Option.some.injEq, Prod.mk.injEq] at hi
        obtain ⟨rfl, rfl⟩ := hi
        refine ⟨(none, 0, 0), true, (oP, (acRefs b bare n).length, cP), (oR, (acRefs b bare n).length, cR), 0, ⟨#[]⟩, (none, 0, 0), (none, 0, 0), cellsAt_of_block h'.bA, by simp [acA], by simp [acA], ⟨none, 0, rfl, .inl rfl⟩, ?_⟩
        refine ⟨rfl, strs_of_row (A := [rowE (eNs n) (.slice oE n cE), rowE (wNs b n) vW]) h'.rows, strs_of_row (A := [rowE (eNs n) (.slice oE n cE), rowE (wNs b n) vW, rowS (acRefs b bare n) (.slice oP (acRefs b bare n).length cP)]) h'.rows, fun p hp => ?_, fun p hp => ?_, ?_, ?_, rfl⟩
        · have := acRefs_size hn p hp; omega
        · have := acRefs_size hn p hp; omega
        · show (acRefs b bare n).length ≤ _; unfold acRefs; simp; omega
        · show (acRefs b bare n).length ≤ _; unfold acRefs; simp; omega
      | i + 1 => simp at hi
  refine ⟨by simp [acL], ?_, fun S hS hn => ?_, fun S hS => ?_, .inr ⟨_, 0, rfl, fun i S hi => ?_⟩⟩
  · cases b
    · rw [ac_namedF]; simp
    · rw [ac_namedT]; simp
  · simp only [acL, List.mem_singleton] at hS
    subst hS
    rfl
  · simp only [acL, List.mem_singleton] at hS
    subst hS
    have := acS_size b
    show (acS b).size ≤ _; omega
  · match i with
    | 0 =>
      simp only [acL, List.getElem?_cons_zero, Option.some.injEq] at hi
      subst hi
      subst hO
      exact ⟨(oE, n, cE), (none, 0, 0), (some ⟨b9, 0, none⟩, 1, 1), (none, 0, 0), cellsAt_of_block hb, isp_of hE hA⟩
    | i + 1 => simp [acL] at hi
/-- The meaning that the law itself writes. -/
theorem ac_row (h : AcB w1 nm (actionTy (acS b)) (acS b) (rowE (eNs n) vE) (rowE (wNs b n) vW) (rowS (acRefs b bare n) vP) (rowS (acRefs b bare n) vR) (rowS (wNs b n) vp) (rowS (wNs b n) vr) b9 b7 x) :
    RowAt ActC 7 x NoB [((actionTy (acS b), nm), acO b n)] (some ⟨b7, 0, none⟩, 1, 1) := by
  have hp := strs_of_row (A := [rowE (eNs n) vE, rowE (wNs b n) vW, rowS (acRefs b bare n) vP, rowS (acRefs b bare n) vR]) h.rows
  have hr := strs_of_row (A := [rowE (eNs n) vE, rowE (wNs b n) vW, rowS (acRefs b bare n) vP, rowS (acRefs b bare n) vR, rowS (wNs b n) vp]) h.rows
  have hp2 := hp
  have hr2 := hr
  obtain ⟨op, cp, ep, _⟩ := hp
  obtain ⟨or, cr, er, _⟩ := hr
  subst ep er
  refine ⟨rfl, .inr ⟨b7, 0, rfl, NoB.not _, fun i y hy => ?_⟩⟩
  match i with
  | 0 =>
    simp only [List.getElem?_cons_zero, Option.some.injEq] at hy
    subst hy
    refine ⟨_, rfl, cellsAt_of_block h.bB, (none, 0, 0), (op, (wNs b n).length, cp), (or, (wNs b n).length, cr), (none, 0, 0), rfl, ⟨none, 0, rfl, .inl rfl⟩, fun z hz => ?_⟩
    cases hz
    exact ⟨hp2, hr2, fun s e' => .record s e' none 0 (fun _ => 0) (fun _ => ⟨#[]⟩) (fun _ => (none, 0, 0)) (fun _ => (none, 0, 0)) (.inl rfl) (fun i k t q h => by simp at h)⟩
  | i + 1 => simp at hy
end

/-! ### keys -/
theorem catF_bound {α : Type} (f : α → Str) (B : Nat) (l : List α) (h : ∀ x ∈ l, (f x).size ≤ B) : (catF f l).size ≤ l.length * B := by
  have hg : ∀ (l : List α), (∀ x ∈ l, (f x).size ≤ B) → ∀ a : Str, (l.foldl (fun acc x => acc ++ f x) a).size ≤ a.size + l.length * B := by
    intro l
    induction l with
    | nil => intro _ a; simp
    | cons x l ih =>
      intro h a
      have h1 := ih (fun y hy => h y (List.mem_cons_of_mem _ hy)) (a ++ f x)
      have h2 := h x (by simp)
      rw [ByteArray.size_append] at h1
      simp only [List.foldl_cons, List.length_cons, Nat.add_mul, Nat.one_mul]
      omega
  have h1 := hg l h ⟨#[]⟩
  have h2 : (⟨#[]⟩ : Str).size = 0 := rfl
  unfold catF
  omega
theorem empty_size : (⟨#[]⟩ : Str).size = 0 := rfl
theorem frm_empty : (frm (⟨#[]⟩ : Str)).size ≤ 8 := by have := frm_size (s := (⟨#[]⟩ : Str)) (by decide); rw [empty_size] at this; omega
theorem flat_zero : EntFlat ⟨[], [], none⟩ := ⟨by simp, by show (⟨#[]⟩ : Str).size ≤ _; decide, fun x h => by simp at h, by simp, by simp, by simp, by show (⟨#[]⟩ : Str).size ≤ _; decide, fun t h => by cases h⟩
theorem ac_entKeys (w : World) (M : Nat → Prop) (b : Bool) (n : Nat) : EntKeys w M eK (acW b n) := entKeys fun p hp => by
  obtain ⟨k, _, rfl⟩ := List.mem_map.1 hp
  exact flat_zero
theorem ac_ctxKeys (w : World) (M : Nat → Prop) (u : Uid) (b : Bool) (n : Nat) : CtxKeys w M aKey [(u, acO b n)] := fun p hp x hx cs hcs w' k => by
  simp only [List.mem_singleton] at hp
  subst hp
  have hx' : some (wNs b n, wNs b n, []) = some x := hx
  cases hx'
  obtain ⟨hn, kf, sf, ef, af, hc, ht⟩ := attrs_told (ao := cs.1) (n := cs.2.1) (c := cs.2.2) hcs
  exact attrsKey_c w M [] cs.1 cs.2.1 cs.2.2 kf sf ef af hn hc ht (fun x h => by simp at h) (by simp) (by simp) (by simp) (by show (⟨#[]⟩ : Str).size ≤ _; decide) w' k
theorem wNs_cat (b : Bool) {n : Nat} (hn : n ≤ 5) : (catK (wNs b n)).size ≤ 65 := by
  have h := catF_bound frm 13 (wNs b n) fun x hx => by
    obtain ⟨k, hk, rfl⟩ := List.mem_map.1 hx
    have h1 := wN_size b k (by have := List.mem_range.1 hk; omega)
    have h2 := frm_size (s := wN b k) (by omega)
    omega
  have h2 : (wNs b n).length = n := by unfold wNs; simp
  rw [h2] at h
  exact Nat.le_trans h (by omega)
theorem ac_few (u : Uid) (b : Bool) {n : Nat} (hn : n ≤ 5) : ∀ p ∈ [(u, acO b n)], ActFew p := fun p hp => by
  simp only [List.mem_singleton] at hp
  subst hp
  refine ⟨by simp [acO], fun x hx => ?_⟩
  have hx' : some (wNs b n, wNs b n, []) = some x := hx
  cases hx'
  have h2 : (wNs b n).length = n := by unfold wNs; simp
  exact ⟨by rw [h2]; omega, by show (wNs b n).length ≤ _; rw [h2]; omega⟩
theorem ac_bE (b : Bool) {n : Nat} (hn : n ≤ 5) : (catF (entP eK) (acW b n)).size ≤ 400000 := by
  have h := catF_bound (entP eK) 100 (acW b n) fun x hx => by
    obtain ⟨k, hk, rfl⟩ := List.mem_map.1 hx
    have h1 := wN_size b k (by have := List.mem_range.1 hk; omega)
    have h2 := frm_size (s := wN b k) (by omega)
    have h3 : (eK ⟨[], [], none⟩).size ≤ 17 := by
      unfold eK eK0
      simp only [ByteArray.size_append]
      have e1 := frm_empty
      have e2 : (namesK []).size ≤ 8 := frm_empty
      have e3 : (frm (aKey [])).size ≤ 8 := frm_empty
      have e4 : (flagS (none : Option ATy).isSome).size = 1 := rfl
      have e5 : (tagS none).size = 0 := rfl
      omega
    have h4 := frm_size (s := eK ⟨[], [], none⟩) (by omega)
    unfold entP
    rw [ByteArray.size_append]
    show (frm (wN b k)).size + (frm (eK ⟨[], [], none⟩)).size ≤ _
    omega
  have h2 : (acW b n).length = n := by unfold acW; simp
  rw [h2] at h
  exact Nat.le_trans h (by omega)
theorem ac_bA (nm : Str) (hnm : nm.size ≤ 50) (b : Bool) {n : Nat} (hn : n ≤ 5) : (catF (actP aKey) [((actionTy (acS b), nm), acO b n)]).size ≤ 400000 := by
  have h := catF_bound (actP aKey) 1000 [((actionTy (acS b), nm), acO b n)] fun x hx => by
    simp only [List.mem_singleton] at hx
    subst hx
    unfold actP acO appK uidsK
    simp only [ByteArray.size_append]
    have ht : (actionTy (acS b)).size ≤ 9 := by cases b <;> decide
    have e1 := frm_size (s := actionTy (acS b)) (by omega)
    have e2 := frm_size (s := nm) (by omega)
    have e3 : (frm (catF uidP [])).size ≤ 8 := frm_empty
    have e4 : (flagS (some (wNs b n, wNs b n, ([] : List (Str × ATy × Bool)))).isSome).size = 1 := rfl
    have c1 := wNs_cat b hn
    have e5 : (namesK (wNs b n)).size ≤ 73 := by
      have := frm_size (s := catK (wNs b n)) (by omega)
      unfold namesK; omega
    have e6 : (frm (aKey [])).size ≤ 8 := frm_empty
    omega
  exact Nat.le_trans h (by simp)
end Go.Proofs.YtedgonoeeeiilaaGreatDoor
