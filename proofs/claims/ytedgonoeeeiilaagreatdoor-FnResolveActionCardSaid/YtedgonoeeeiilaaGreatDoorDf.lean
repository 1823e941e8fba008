/- A search in depth for circles, plain; no program in sight. -/
import Derived.Test.YtedgonoeeeiilaaGreatDoorJBase
namespace Go.Proofs.YtedgonoeeeiilaaGreatDoor

section
variable {α : Type} (par : α → List α)

/-- Each name stands in the list of the next one. -/
def Path : List α → Prop
  | [] => True
  | [_] => True
  | x :: y :: l => x ∈ par y ∧ Path (y :: l)
def Up (a b : α) : Prop := a ∈ par b
variable {par}
theorem no_acc {C : List α} (h : ∀ c ∈ C, ∃ d ∈ C, d ∈ par c) : ∀ c, Acc (Up par) c → c ∈ C → False := by
  intro c hc
  induction hc with
  | intro c _ ih =>
    intro hm
    obtain ⟨d, hd, hr⟩ := h c hm
    exact ih d hr hd
theorem path_part {x : α} : ∀ (l : List α) (top : α), Path par (top :: l) → x ∈ top :: l → ∃ C : List α, top ∈ C ∧ x ∈ C ∧ ∀ c ∈ C, c = x ∧ c ≠ x ∨ (c ≠ top → ∃ d ∈ C, d ∈ par c) := by
  intro l
  induction l with
  | nil =>
    intro top _ hx
    obtain rfl := List.mem_singleton.1 hx
    exact ⟨[x], by simp, by simp, fun c hc => .inr fun h => (h (List.mem_singleton.1 hc)).elim⟩
  | cons y l ih =>
    intro top hp hx
    rcases List.mem_cons.1 hx with rfl | hx
    · exact ⟨[x], by simp, by simp, fun c hc => .inr fun h => (h (List.mem_singleton.1 hc)).elim⟩
    · obtain ⟨C, h1, h2, h3⟩ := ih y hp.2 hx
      refine ⟨top :: C, by simp, by simp [h2], fun c hc => .inr fun hne => ?_⟩
      rcases List.mem_cons.1 hc with rfl | hc
      · exact (hne rfl).elim
      · by_cases hcy : ∃ d ∈ C, d ∈ par c
        · obtain ⟨d, hd, hr⟩ := hcy
          exact ⟨d, by simp [hd], hr⟩
        · rcases h3 c hc with h | h
          · exact (h.2 h.1).elim
          · have : c = y := Classical.byContradiction fun hn => hcy (h hn)
            exact ⟨top, by simp, this ▸ hp.1⟩
theorem path_circle {x top : α} {l : List α} (hp : Path par (top :: l)) (hx : x ∈ top :: l) (hr : x ∈ par top) : ¬ Acc (Up par) x := by
  obtain ⟨C, h1, h2, h3⟩ := path_part l top hp hx
  intro ha
  refine no_acc (C := C) (fun c hc => ?_) x ha h2
  by_cases hct : c = top
  · exact ⟨x, h2, hct ▸ hr⟩
  · rcases h3 c hc with h | h
    · exact (h.2 h.1).elim
    · exact h hct

variable (par)
/-- The state of the search: V tells 0 (not visited), 1 (being visited: these are stk, the last one first), 2 (done). -/
structure DSt (V : α → Nat) (stk : List α) : Prop where
  one : ∀ x, V x = 1 ↔ x ∈ stk
  two : ∀ x, V x = 2 → Acc (Up par) x
  le : ∀ x, V x ≤ 2
  path : Path par stk
  nod : stk.Nodup
/-- u comes next. -/
def Next (stk : List α) (u : α) : Prop := ∀ top l, stk = top :: l → u ∈ par top
variable {par}
theorem DSt.start : DSt par (fun _ => 0) [] := ⟨fun x => by simp, fun x h => by simp at h, fun x => by simp, trivial, by simp⟩
theorem DSt.hit {V : α → Nat} {stk : List α} {u : α} (h : DSt par V stk) (hn : Next par stk u) (hu : V u = 1) : ¬ Acc (Up par) u := by
  have hm := (h.one u).1 hu
  cases stk with
  | nil => cases hm
  | cons top l => exact path_circle h.path hm (hn top l rfl)
variable [DecidableEq α]
def upd (V : α → Nat) (u : α) (n : Nat) : α → Nat := fun x => if u = x then n else V x
theorem upd_same (V : α → Nat) (u : α) (n : Nat) : upd V u n u = n := if_pos rfl
theorem upd_ne {V : α → Nat} {u x : α} {n : Nat} (h : u ≠ x) : upd V u n x = V x := if_neg h
theorem DSt.push {V : α → Nat} {stk : List α} {u : α} (h : DSt par V stk) (hn : Next par stk u) (hu : V u = 0) : DSt par (upd V u 1) (u :: stk) := by
  have hus : u ∉ stk := fun hm => by have := (h.one u).2 hm; omega
  refine ⟨fun x => ?_, fun x hx => ?_, fun x => ?_, ?_, List.nodup_cons.2 ⟨hus, h.nod⟩⟩
  · by_cases hux : u = x
    · subst hux; simp [upd_same]
    · rw [upd_ne hux, h.one x, List.mem_cons]
      exact ⟨.inr, fun h => h.resolve_left (fun e => hux e.symm)⟩
  · by_cases hux : u = x
    · subst hux; rw [upd_same] at hx; omega
    · rw [upd_ne hux] at hx; exact h.two x hx
  · by_cases hux : u = x
    · subst hux; rw [upd_same]; omega
    · rw [upd_ne hux]; exact h.le x
  · cases stk with
    | nil => trivial
    | cons top l => exact ⟨hn top l rfl, h.path⟩
theorem DSt.pop {V : α → Nat} {stk : List α} {u : α} (h : DSt par V (u :: stk)) (hp : ∀ p ∈ par u, V p = 2) : DSt par (upd V u 2) stk := by
  obtain ⟨hus, hnod⟩ := List.nodup_cons.1 h.nod
  refine ⟨fun x => ?_, fun x hx => ?_, fun x => ?_, ?_, hnod⟩
  · by_cases hux : u = x
    · subst hux; rw [upd_same]; simp [hus]
    · rw [upd_ne hux, h.one x, List.mem_cons]
      exact ⟨fun h => h.resolve_left (fun e => hux e.symm), .inr⟩
  · by_cases hux : u = x
    · subst hux; exact Acc.intro _ fun p hpu => h.two p (hp p hpu)
    · rw [upd_ne hux] at hx; exact h.two x hx
  · by_cases hux : u = x
    · subst hux; rw [upd_same]; omega
    · rw [upd_ne hux]; exact h.le x
  · have := h.path
    cases stk with
    | nil => trivial
    | cons top l => exact this.2
omit [DecidableEq α] in
theorem DSt.next {V : α → Nat} {stk : List α} {u p : α} (_ : DSt par V (u :: stk)) (hp : p ∈ par u) : Next par (u :: stk) p := fun top l e => by cases e; exact hp
/-- how many of N have not been visited -/
def todo (N : List α) (V : α → Nat) : Nat := (N.filter fun x => V x == 0).length
omit [DecidableEq α] in
theorem todo_le {N : List α} {V V' : α → Nat} (h : ∀ x, V' x = 0 → V x = 0) : todo N V' ≤ todo N V := by
  unfold todo
  induction N with
  | nil => simp
  | cons a N ih =>
    simp only [List.filter_cons]
    by_cases h' : V' a = 0
    · simp [h', h a h', ih]
    · have e : (V' a == 0) = false := by simpa using h'
      cases hv : (V a == 0)
      · simp only [e, Bool.false_eq_true, if_false]; exact ih
      · simp only [e, Bool.false_eq_true, if_false, if_true, List.length_cons]; omega
theorem todo_lt {N : List α} {V : α → Nat} {u : α} (hu : u ∈ N) (h0 : V u = 0) : todo N (upd V u 1) < todo N V := by
  have hle : ∀ x, upd V u 1 x = 0 → V x = 0 := fun x hx => by
    by_cases hux : u = x
    · subst hux; rw [upd_same] at hx; omega
    · rwa [upd_ne hux] at hx
  unfold todo
  induction N with
  | nil => cases hu
  | cons a N ih =>
    simp only [List.filter_cons]
    by_cases hau : u = a
    · subst hau
      have := todo_le (N := N) hle
      unfold todo at this
      simp [upd_same, h0]
      omega
    · have := ih ((List.mem_cons.1 hu).resolve_left hau)
      rw [upd_ne hau]
      by_cases ha : V a = 0
      · simp [ha]; exact this
      · simp [ha]; exact this
theorem upd_zero {V : α → Nat} {u x : α} {n : Nat} (hn : n ≠ 0) (h : upd V u n x = 0) : V x = 0 := by
  by_cases hux : u = x
  · subst hux; rw [upd_same] at h; exact (hn h).elim
  · rwa [upd_ne hux] at h
theorem upd_two {V : α → Nat} {u x : α} {n : Nat} (hu : V u ≠ 2) (h : V x = 2) : upd V u n x = 2 := by
  have hux : u ≠ x := fun e => hu (e ▸ h)
  rw [upd_ne hux]; exact h
end
end Go.Proofs.YtedgonoeeeiilaaGreatDoor
