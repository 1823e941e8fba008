/- Kahn's algorithm in memory: how its maps lie; no walk of the program. -/
import Derived.Test.YthhjehajdcgkhaaGreatDoorCr
import Derived.Test.YthhjehajdcgkhaaGreatDoorKah
import Derived.Test.YthhjehajdcgkhaaGreatDoorQu
namespace Go.Proofs.YthhjehajdcgkhaaGreatDoor
open Go.RowKit

theorem MapRel.back {κ α : Type} [DecidableEq κ] {R : α → Value → Prop} {l : List (κ × α)} {lv : List (κ × Value)} (h : MapRel R l lv) (hv : (lv.map (·.1)).Nodup) : (∀ k v, (k, v) ∈ lv → ∃ x, (k, x) ∈ l ∧ R x v) ∧ (lv.map (·.1)).Perm (l.map (·.1)) := by
  have h1 := subset_back h.nodup (b := lv.map (·.1)) (fun x hx => by
    obtain ⟨p, hp, rfl⟩ := List.mem_map.1 hx
    obtain ⟨v, hv, _⟩ := h.rel p.1 p.2 hp
    exact List.mem_map.2 ⟨_, hv, rfl⟩) (by simp [h.len])
  have h2 : ∀ k v, (k, v) ∈ lv → ∃ x, (k, x) ∈ l ∧ R x v := by
    intro k v hm
    obtain ⟨⟨k', x⟩, hx, rfl⟩ := List.mem_map.1 (h1 k (List.mem_map.2 ⟨_, hm, rfl⟩))
    obtain ⟨v', hv', hR⟩ := h.rel _ x hx
    exact ⟨x, hx, by rw [key_unique hv hm hv']; exact hR⟩
  refine ⟨h2, (List.perm_ext_iff_of_nodup hv h.nodup).2 fun k => ⟨h1 k, fun hk => ?_⟩⟩
  obtain ⟨p, hp, rfl⟩ := List.mem_map.1 hk
  obtain ⟨v, hv, _⟩ := h.rel p.1 p.2 hp
  exact List.mem_map.2 ⟨_, hv, rfl⟩

/-- an edge among common types -/
def Edge (V : Env) (n p : Str) : Prop := ∃ t r, kget V.C n = some t ∧ RefIn r t ∧ p = pathOf V (nsOf n) r ∧ p ∈ V.C.map (·.1)
/-- no circles -/
def Acyc (V : Env) : Prop := ∃ rank : Str → Nat, ∀ n p, Edge V n p → rank n < rank p

theorem refIn_size {w : World} {M : Nat → Prop} {t : ATy} {v : Value} (h : ATyIs w M t v) : ∀ y, RefIn y t → y.size ≤ 1000000 := by
  induction h with
  | str => intro y h; cases h
  | long => intro y h; cases h
  | bool => intro y h; cases h
  | ext s _ => intro y h; cases h
  | set _ ih => intro y h; cases h; exact ih y (by assumption)
  | record hm hM hn hl ha ht ih => intro y h; cases h; rename_i h2 h1; exact ih _ _ _ h1 y h2
  | ent s _ => intro y h; cases h
  | ref s hs => intro y h; cases h; exact hs

/-- A map of lists of names: the lists lie in no block of M. -/
def DMap (w : World) (M : Nat → Prop) (d : Nat) (C : List Str) (dp : Str → List Str) : Prop :=
  ∃ ld, KMap Value.string w d ld ∧ (∀ n, n ∉ ld.map (·.1) → dp n = []) ∧ ∀ n v, (n, v) ∈ ld → n ∈ C ∧ StrsAt w M (dp n) v
theorem DMap.keep {w w' : World} {M M' M2 : Nat → Prop} {d : Nat} {C : List Str} {dp : Str → List Str} (h : DMap w M d C dp) (hk : Keep M2 w w') (hd : ¬ M2 d) (h2 : ∀ i, i < w.heap.size → M2 i → M i) (h3 : ∀ i, i < w.heap.size → M' i → M i) : DMap w' M' d C dp := by
  obtain ⟨ld, h1, h4, h5⟩ := h
  exact ⟨ld, h1.keep hk hd, h4, fun n v hv => ⟨(h5 n v hv).1, StrsAt.keep.k hk h2 h3 (h5 n v hv).2⟩⟩

/-- A map of numbers, one for each name of C. -/
def IMap (w : World) (g : Nat) (C : List Str) (D : Str → Int) : Prop :=
  ∃ lg, KMap Value.string w g lg ∧ (lg.map (·.1)).Perm C ∧ ∀ x v, (x, v) ∈ lg → v = .int .i64 (D x)
theorem IMap.keep {w w' : World} {M : Nat → Prop} {g : Nat} {C : List Str} {D : Str → Int} (h : IMap w g C D) (hk : Keep M w w') (hg : ¬ M g) : IMap w' g C D := by
  obtain ⟨lg, h1, h2, h3⟩ := h
  exact ⟨lg, h1.keep hk hg, h2, h3⟩
theorem zeroInt (w : World) : (zeroValue 3).run Tryz.prog w = .ok (.int .i64 0) w := by kernel_rfl
theorem IMap.lookup {w : World} {g : Nat} {C : List Str} {D : Str → Int} (h : IMap w g C D) {x : Str} (hx : x ∈ C) :
    (Instr.lookup 265 (.map (some g)) (.string x) false).run Tryz.prog w = .ok (.int .i64 (D x)) w := by
  obtain ⟨lg, h1, h2, h3⟩ := h
  rw [h1.lookup (strKey Tryz.underlying150) Tryz.underlying265 (zeroInt w) x false]
  obtain ⟨⟨y, v⟩, hp, rfl⟩ := List.mem_map.1 (h2.mem_iff.2 hx)
  rw [kget_mem h1.nodup hp, h3 _ _ hp]; rfl
theorem mem_kput {α : Type} {l : List (Str × α)} (hn : (l.map (·.1)).Nodup) {k x : Str} {v u : α} (h : (x, u) ∈ kput l k v) : (x = k ∧ u = v) ∨ (x ≠ k ∧ (x, u) ∈ l) := by
  have h1 := kget_mem (kput_nodup hn k v) h
  rw [kget_kput] at h1
  by_cases e : k = x
  · rw [if_pos e] at h1; exact .inl ⟨e.symm, by simpa using h1.symm⟩
  · rw [if_neg e] at h1; exact .inr ⟨fun q => e q.symm, kget_some h1⟩
theorem IMap.update {w : World} {g : Nat} {C : List Str} {D : Str → Int} (h : IMap w g C D) {x : Str} (hx : x ∈ C) (z : Int) {D' : Str → Int} (hD : ∀ y, D' y = if y = x then z else D y) :
    ∃ o, (Instr.mapUpdate 265 (.map (some g)) (.string x) (.int .i64 z)).run Tryz.prog w = .ok () (ChangeMaps.setBlock w g o) ∧ IMap (ChangeMaps.setBlock w g o) g C D' := by
  obtain ⟨lg, h1, h2, h3⟩ := h
  obtain ⟨o, hr, hm⟩ := h1.update (strKey Tryz.underlying150) Tryz.underlying265 x (.int .i64 z)
  refine ⟨o, hr, _, hm, ?_, fun y v hy => ?_⟩
  · rw [kput_keys]
    have : lg.any (fun p => decide (p.1 = x)) = true := by
      rw [List.any_eq_true]
      obtain ⟨p, hp, e⟩ := List.mem_map.1 (h2.mem_iff.2 hx)
      exact ⟨p, hp, by simpa using e⟩
    rw [if_pos this]; exact h2
  · rw [hD]
    rcases mem_kput h1.nodup hy with ⟨rfl, rfl⟩ | ⟨e, hy⟩
    · rw [if_pos rfl]
    · rw [if_neg e]; exact h3 _ _ hy
theorem IMap.insert {w : World} {g : Nat} {C : List Str} {D : Str → Int} (h : IMap w g C D) {x : Str} (hx : x ∉ C) (hD : D x = 0) :
    ∃ o, (Instr.mapUpdate 265 (.map (some g)) (.string x) (.int .i64 0)).run Tryz.prog w = .ok () (ChangeMaps.setBlock w g o) ∧ IMap (ChangeMaps.setBlock w g o) g (x :: C) D := by
  obtain ⟨lg, h1, h2, h3⟩ := h
  obtain ⟨o, hr, hm⟩ := h1.update (strKey Tryz.underlying150) Tryz.underlying265 x (.int .i64 0)
  have hf : ∀ p ∈ lg, p.1 ≠ x := fun p hp e => hx (h2.mem_iff.1 (List.mem_map.2 ⟨p, hp, e⟩))
  rw [kput_fresh _ hf] at hm
  refine ⟨o, hr, _, hm, ?_, fun y v hy => ?_⟩
  · rw [List.map_append]
    exact (List.perm_append_comm).trans (List.Perm.cons x h2)
  · rcases List.mem_append.1 hy with hy | hy
    · exact h3 _ _ hy
    · simp only [List.mem_singleton, Prod.mk.injEq] at hy
      rw [hy.2, hy.1, hD]
theorem IMap.perm {w : World} {g : Nat} {C C' : List Str} {D D' : Str → Int} (h : IMap w g C D) (hp : C.Perm C') (hD : ∀ x ∈ C', D' x = D x) : IMap w g C' D' := by
  obtain ⟨lg, h1, h2, h3⟩ := h
  refine ⟨lg, h1, h2.trans hp, fun x v hv => ?_⟩
  rw [hD x ((h2.trans hp).mem_iff.1 (List.mem_map.2 ⟨_, hv, rfl⟩))]
  exact h3 x v hv
theorem IMap.nodup {w : World} {g : Nat} {C : List Str} {D : Str → Int} (h : IMap w g C D) : C.Nodup := by
  obtain ⟨lg, h1, h2, _⟩ := h
  exact h2.nodup_iff.1 h1.nodup

/-! ### sums -/
theorem indeg_cons (dp : Str → List Str) (a : Str) (l : List Str) (x : Str) : indeg dp (a :: l) x = (dp a).count x + indeg dp l x := by
  unfold indeg; simp
theorem indeg_append (dp : Str → List Str) (l l' : List Str) (x : Str) : indeg dp (l ++ l') x = indeg dp l x + indeg dp l' x := by
  unfold indeg; simp
theorem indeg_le (dp : Str → List Str) (B : Nat) (x : Str) : ∀ l : List Str, (∀ a ∈ l, (dp a).length ≤ B) → indeg dp l x ≤ l.length * B
  | [], _ => by simp [indeg]
  | a :: l, h => by
    have h1 := indeg_le dp B x l fun b hb => h b (.tail _ hb)
    have h2 := h a (.head _)
    have h3 := List.count_le_length (a := x) (l := dp a)
    rw [indeg_cons, List.length_cons, Nat.add_mul]
    omega
/-- Those without lists count nothing. -/
theorem indeg_sub {dp : Str → List Str} {C K : List Str} (hC : C.Nodup) (hK : K.Nodup) (hs : ∀ a ∈ K, a ∈ C) (h0 : ∀ a, a ∉ K → dp a = []) (x : Str) : indeg dp C x = indeg dp K x := by
  have hp : C.Perm (K ++ C.filter fun a => decide (a ∉ K)) := by
    refine (List.perm_ext_iff_of_nodup hC (List.nodup_append.2 ⟨hK, hC.filter _, fun a ha b hb e => ?_⟩)).2 fun a => ?_
    · subst e
      rw [List.mem_filter, decide_eq_true_eq] at hb
      exact hb.2 ha
    · rw [List.mem_append, List.mem_filter, decide_eq_true_eq]
      constructor
      · intro h
        by_cases hk : a ∈ K
        · exact .inl hk
        · exact .inr ⟨h, hk⟩
      · rintro (h | h)
        · exact hs a h
        · exact h.1
  rw [indeg_perm hp, indeg_append]
  have : indeg dp (C.filter fun a => decide (a ∉ K)) x = 0 := by
    rw [indeg_zero]
    intro a ha
    rw [List.mem_filter, decide_eq_true_eq] at ha
    rw [h0 a ha.2]; simp
  omega
end Go.Proofs.YthhjehajdcgkhaaGreatDoor
