/- Row, Mean, Mty, Rm: joined. -/
import Derived.Test.YtedgonoeeeiilaaGreatDoorOut
import Derived.Maps.AppendAt
import Derived.Test.YtedgonoeeeiilaaGreatDoorJKs
import Derived.Deep.RegionHeld3
import Derived.Deep.AppendLies
import Derived.Test.YtedgonoeeeiilaaGreatDoorSqy
/- Rows of records that a loop of the call's own appends to; no program in sight. -/
namespace Go.Proofs.YtedgonoeeeiilaaGreatDoor
open Go.RowKit

/-- the block in which a slice's row lies -/
def OB (v : Value) (i : Nat) : Prop := v.ownBlock = some i

/-- A relation between data and cells that is kept while other blocks turn. -/
structure KeepsC {α : Type} (R : World → (Nat → Prop) → α → List Value → Prop) : Prop where
  k : ∀ {w w' : World} {M M' M2 : Nat → Prop} {x : α} {cs : List Value}, Keep M2 w w' → (∀ i, i < w.heap.size → M2 i → M i) → (∀ i, i < w.heap.size → M' i → M i) → R w M x cs → R w' M' x cs

/-- A slice of the call's own, told by its elements. -/
def RowIs {α : Type} (R : World → (Nat → Prop) → α → List Value → Prop) (w : World) (base : Nat) (E : TypeId) (size : Nat) (v : Value) (l : List α) : Prop :=
  ∃ xss : List (List Value), xss.length = l.length ∧ (∀ (i : Nat) (x : α), l[i]? = some x → ∃ cs, xss[i]? = some cs ∧ cs.length = size ∧ R w (fun i => OB v i ∨ i < base) x cs) ∧ w.ownsRow base E size v l.length xss.flatten

section
variable {α : Type} {R : World → (Nat → Prop) → α → List Value → Prop} {w w' : World} {base : Nat} {E : TypeId} {size : Nat} {v : Value} {l : List α}
theorem RowIs.nil (R : World → (Nat → Prop) → α → List Value → Prop) (w : World) (base : Nat) (E : TypeId) (size : Nat) : RowIs R w base E size (.slice none 0 0) [] :=
  ⟨[], rfl, fun i x h => by simp at h, World.ownsRow_nil w base E size⟩
theorem RowIs.keep {M : Nat → Prop} (hR : KeepsC R) (h : RowIs R w base E size v l) (k : Keep M w w') (hM : ∀ i, M i → i < base) : RowIs R w' base E size v l := by
  obtain ⟨xss, h1, h2, h3⟩ := h
  refine ⟨xss, h1, fun i x hx => ?_, h3.keep k fun i hi hm => by have := hM i hm; omega⟩
  obtain ⟨cs, a, b, c⟩ := h2 i x hx
  exact ⟨cs, a, b, hR.k k (fun i _ hi => .inr (hM i hi)) (fun _ _ h => h) c⟩
theorem RowIs.keep0 (hR : KeepsC R) (h : RowIs R w base E size v l) (k : Keep NoB w w') : RowIs R w' base E size v l := h.keep hR k fun _ h => h.elim
theorem RowIs.opened (hR : KeepsC R) (h : RowIs R w base E size v l) : ∃ xs : List Value, w.ownsRow base E size v l.length xs ∧
    ∀ (g cap : Nat) (w' : World) (x : α) (cs : List Value), cs.length = size → R w (fun i => OB v i ∨ i < base) x cs → w'.ownsRow base E size (.slice (some ⟨g, 0, none⟩) (l.length + 1) cap) (l.length + 1) (xs ++ cs) → w.grownBy w' v.ownBlock → (v.ownBlock = some g ∨ g = w.heap.size) →
      RowIs R w' base E size (.slice (some ⟨g, 0, none⟩) (l.length + 1) cap) (l ++ [x]) ∧ Keep (OB v) w w' := by
  obtain ⟨xss, h1, h2, h3⟩ := h
  refine ⟨xss.flatten, h3, fun g cap w' x cs hcs hx hown hg hat => ?_⟩
  obtain ⟨v', hv'⟩ : ∃ v' : Value, v' = .slice (some ⟨g, 0, none⟩) (l.length + 1) cap := ⟨_, rfl⟩
  have hat' : v'.ownBlock = v.ownBlock ∨ v'.ownBlock = some w.heap.size := by
    rw [hv']
    rcases hat with h | h
    · exact .inl h.symm
    · exact .inr (by rw [h]; rfl)
  rw [← hv'] at hown ⊢
  clear hv' hat
  have kg : Keep (OB v) w w' := Keep.grown hg fun i hi _ => hi
  have hM : ∀ i, i < w.heap.size → (OB v' i ∨ i < base) → (OB v i ∨ i < base) := fun i hi h => by
    rcases h with h | h
    · rcases hat' with e | e
      · exact .inl (by unfold OB at *; rw [← e]; exact h)
      · unfold OB at h; rw [e] at h; cases h; omega
    · exact .inr h
  refine ⟨⟨xss ++ [cs], by simp [h1], fun i y hy => ?_, ?_⟩, kg⟩
  · rcases Nat.lt_or_ge i l.length with hi | hi
    · rw [List.getElem?_append_left hi] at hy
      obtain ⟨c, a, b, d⟩ := h2 i y hy
      exact ⟨c, by rw [List.getElem?_append_left (by omega)]; exact a, b, hR.k kg (fun _ _ h => .inl h) hM d⟩
    · rw [List.getElem?_append_right hi] at hy
      have hi0 : i - l.length = 0 := by
        rcases Nat.eq_zero_or_pos (i - l.length) with e | e
        · exact e
        · rw [List.getElem?_eq_none (by simp; omega)] at hy; cases hy
      rw [hi0] at hy
      simp only [List.getElem?_cons_zero, Option.some.injEq] at hy
      subst hy
      refine ⟨cs, by rw [List.getElem?_append_right (by omega), show i - xss.length = 0 by omega]; rfl, hcs, hR.k kg (fun _ _ h => .inl h) hM hx⟩
  · rw [List.flatten_append, List.length_append]
    simpa using hown
theorem RowIs.lt (h : RowIs R w base E size v l) : ∀ i, OB v i → base ≤ i ∧ i < w.heap.size := by
  obtain ⟨xss, _, _, h3⟩ := h
  exact fun i hi => World.ownsRow.lt h3 i hi
theorem RowIs.shape (h : RowIs R w base E size v l) : ∃ o c, v = .slice o l.length c := by
  obtain ⟨xss, _, _, h3⟩ := h
  rcases h3.2 with ⟨rfl, h0⟩ | ⟨g, cap, cur, rfl, _⟩
  · exact ⟨none, 0, by rw [h0]⟩
  · exact ⟨_, _, rfl⟩

theorem flatten_at : ∀ {xss : List (List Value)} {n : Nat} (_ : ∀ cs ∈ xss, cs.length = n) (i j : Nat) (cs : List Value), xss[i]? = some cs → j < n → xss.flatten[i * n + j]? = cs[j]?
  | [], _, _, _, _, _, h, _ => by simp at h
  | c :: xss, n, hn, i, j, cs, h, hj => by
    have hc := hn c (.head _)
    rw [List.flatten_cons]
    cases i with
    | zero =>
      simp only [List.getElem?_cons_zero, Option.some.injEq] at h
      subst h
      rw [Nat.zero_mul, Nat.zero_add, List.getElem?_append_left (by omega)]
    | succ i =>
      rw [List.getElem?_cons_succ] at h
      rw [List.getElem?_append_right (by rw [hc, Nat.succ_mul]; omega), show (i + 1) * n + j - c.length = i * n + j by rw [hc, Nat.succ_mul]; omega]
      exact flatten_at (fun cs h => hn cs (.tail _ h)) i j cs h hj

theorem RowIs.over (hR : KeepsC R) (h : RowIs R w base E size v l) : ∃ ov c, v = .slice ov l.length c ∧ (l = [] ∨ ∃ b, ov = some ⟨b, 0, none⟩ ∧ base ≤ b ∧ ∀ i x, l[i]? = some x → ∃ cs, cs.length = size ∧ CellsAt w b (0 + i * size) cs ∧ R w (· < base) x cs) := by
  obtain ⟨xss, h1, h2, h3⟩ := h
  have hall : ∀ cs ∈ xss, cs.length = size := by
    intro cs hcs
    obtain ⟨i, hi⟩ := List.getElem?_of_mem hcs
    have hi' : i < l.length := by
      have := (List.getElem?_eq_some_iff.1 hi).1; omega
    obtain ⟨c, a, b, _⟩ := h2 i _ (List.getElem?_eq_getElem hi')
    rw [hi] at a; cases a; exact b
  have hcells := @World.ownsRow.cells _ _ _ _ _ _ _ h3
  rcases h3.2 with ⟨rfl, h0⟩ | ⟨g, cap, cur, rfl, hb, _⟩
  · exact ⟨none, 0, by rw [h0], .inl (List.eq_nil_of_length_eq_zero h0)⟩
  · refine ⟨_, _, rfl, .inr ⟨g, rfl, hb, fun i x hx => ?_⟩⟩
    obtain ⟨cs, a, b, c⟩ := h2 i x hx
    refine ⟨cs, b, fun j u hu => ?_, hR.k (Keep.refl NoB w) (fun _ _ h => h.elim) (fun _ _ h => .inr h) c⟩
    have hj : j < size := by have := (List.getElem?_eq_some_iff.1 hu).1; omega
    have := hcells (g := g) rfl (i * size + j) u (by rw [flatten_at hall i j cs a hj]; exact hu)
    rw [show (⟨g, 0, none⟩ : Addr).add (i * size + j) = ⟨g, i * size + j, none⟩ by unfold Addr.add; split <;> simp_all] at this
    rw [Nat.zero_add]; exact this
end
end Go.Proofs.YtedgonoeeeiilaaGreatDoor
/- Types as they are told back: how they lie in memory, what a resolved type means; the walks of meantType and meantAttrs. -/
namespace Go.Proofs.YtedgonoeeeiilaaGreatDoor
open Go.RowKit

/-- A type as it is told, without conditions. -/
inductive OTyIs (w : World) (M : Nat → Prop) : ATy → Value → Prop
  | str (s : Str) (e a : Sl) : OTyIs w M .str (tyV 1 s e a)
  | long (s : Str) (e a : Sl) : OTyIs w M .long (tyV 2 s e a)
  | bool (s : Str) (e a : Sl) : OTyIs w M .bool (tyV 3 s e a)
  | ext (s : Str) (e a : Sl) : OTyIs w M (.ext s) (tyV 4 s e a)
  | set {t : ATy} (s : Str) (b off c : Nat) (a : Sl) (k' : Int) (s' : Str) (e' a' : Sl) : ¬ M b → CellsAt w b off [.int .i64 k', .string s', slV e', slV a'] → OTyIs w M t (tyV k' s' e' a') → OTyIs w M (.set t) (tyV 5 s (some ⟨b, off, none⟩, 1, c) a)
  | record {l : List (Str × ATy × Bool)} (s : Str) (e : Sl) (ao : Option Addr) (c : Nat) (kf : Nat → Int) (sf : Nat → Str) (ef af : Nat → Sl) :
      (l = [] ∨ ∃ b off, ao = some ⟨b, off, none⟩ ∧ ¬ M b ∧ ∀ i k t q, l[i]? = some (k, t, q) → CellsAt w b (off + i * 6) [.string k, .bool q, .int .i64 (kf i), .string (sf i), slV (ef i), slV (af i)]) →
      (∀ i k t q, l[i]? = some (k, t, q) → OTyIs w M t (tyV (kf i) (sf i) (ef i) (af i))) → OTyIs w M (.record l) (tyV 6 s e (ao, l.length, c))
  | ent (s : Str) (e a : Sl) : OTyIs w M (.ent s) (tyV 7 s e a)
  | ref (s : Str) (e a : Sl) : OTyIs w M (.ref s) (tyV 8 s e a)

theorem ITyIs.told {w : World} {M : Nat → Prop} {t : ATy} {v : Value} (h : ITyIs w M t v) : OTyIs w M t v := by
  induction h with
  | str s e a => exact .str s e a
  | long s e a => exact .long s e a
  | bool s e a => exact .bool s e a
  | ext s e a _ => exact .ext s e a
  | set s b off c a k' s' e' a' hM hc _ ih => exact .set s b off c a k' s' e' a' hM hc ih
  | record s e ao c kf sf ef af _ _ hc _ ih => exact .record s e ao c kf sf ef af hc ih
  | ent s e a _ => exact .ent s e a
  | ref s e a _ => exact .ref s e a
theorem OTyIs.keep {w w' : World} {M M' M2 : Nat → Prop} {t : ATy} {v : Value} (h : OTyIs w M t v) (hk : Keep M2 w w') (h2 : ∀ i, i < w.heap.size → M2 i → M i) (h3 : ∀ i, i < w.heap.size → M' i → M i) : OTyIs w' M' t v := by
  induction h with
  | str s e a => exact .str s e a
  | long s e a => exact .long s e a
  | bool s e a => exact .bool s e a
  | ext s e a => exact .ext s e a
  | set s b off c a k' s' e' a' hM hc _ ih =>
    have hb : b < w.heap.size := block_lt_of_cell (hc 0 _ rfl)
    exact .set s b off c a k' s' e' a' (fun q => hM (h3 b hb q)) (hc.keep hk fun q => hM (h2 b hb q)) ih
  | @record l s e ao c kf sf ef af hc _ ih =>
    refine .record s e ao c kf sf ef af ?_ ih
    rcases hc with h | ⟨b, off, e1, hM, hc⟩
    · exact .inl h
    · cases l with
      | nil => exact .inl rfl
      | cons x l =>
        have hb : b < w.heap.size := block_lt_of_cell (hc 0 x.1 x.2.1 x.2.2 rfl 0 _ rfl)
        exact .inr ⟨b, off, e1, fun q => hM (h3 b hb q), fun i k t q hi => (hc i k t q hi).keep hk fun z => hM (h2 b hb z)⟩
  | ent s e a => exact .ent s e a
  | ref s e a => exact .ref s e a

/-- One attribute's cells. -/
def AttrC (w : World) (M : Nat → Prop) (x : Str × ATy × Bool) (cs : List Value) : Prop := ∃ kk s e al, cs = [.string x.1, .bool x.2.2, .int .i64 kk, .string s, slV e, slV al] ∧ OTyIs w M x.2.1 (tyV kk s e al)
theorem AttrC.keeps : KeepsC AttrC := ⟨fun hk h2 h3 ⟨kk, s, e, al, e1, h⟩ => ⟨kk, s, e, al, e1, h.keep hk h2 h3⟩⟩

theorem OTyIs.mkRecord {w : World} {M : Nat → Prop} {l : List (Str × ATy × Bool)} {ao : Option Addr} (h : l = [] ∨ ∃ b off, ao = some ⟨b, off, none⟩ ∧ ¬ M b ∧ ∀ i x, l[i]? = some x → ∃ cs, CellsAt w b (off + i * 6) cs ∧ AttrC w M x cs) (s : Str) (e : Sl) (c : Nat) : OTyIs w M (.record l) (tyV 6 s e (ao, l.length, c)) := by
  rcases h with rfl | ⟨b, off, e1, hM, h⟩
  · exact .record s e ao c (fun _ => 0) (fun _ => ⟨#[]⟩) (fun _ => (none, 0, 0)) (fun _ => (none, 0, 0)) (.inl rfl) (fun i k t q h => by simp at h)
  · have h' : ∀ i, ∃ (kk : Int) (s : Str) (e al : Sl), ∀ x, l[i]? = some x → CellsAt w b (off + i * 6) [.string x.1, .bool x.2.2, .int .i64 kk, .string s, slV e, slV al] ∧ OTyIs w M x.2.1 (tyV kk s e al) := by
      intro i
      cases hi : l[i]? with
      | none => exact ⟨0, ⟨#[]⟩, (none, 0, 0), (none, 0, 0), fun x h => by cases h⟩
      | some x =>
        obtain ⟨cs, h1, kk, s, e, al, rfl, h2⟩ := h i x hi
        exact ⟨kk, s, e, al, fun y hy => by cases hy; exact ⟨h1, h2⟩⟩
    refine .record s e ao c (fun i => (h' i).choose) (fun i => (h' i).choose_spec.choose) (fun i => (h' i).choose_spec.choose_spec.choose) (fun i => (h' i).choose_spec.choose_spec.choose_spec.choose) (.inr ⟨b, off, e1, hM, fun i k t q hi => ?_⟩) (fun i k t q hi => ?_)
    · exact ((h' i).choose_spec.choose_spec.choose_spec.choose_spec _ hi).1
    · exact ((h' i).choose_spec.choose_spec.choose_spec.choose_spec _ hi).2

/-- What a resolved type means: the same, the attributes of records in the order of their names. -/
inductive Meant : RTy → ATy → Prop
  | str : Meant .str .str
  | long : Meant .long .long
  | bool : Meant .bool .bool
  | ext (s : Str) : Meant (.ext s) (.ext s)
  | set {t : RTy} {a : ATy} : Meant t a → Meant (.set t) (.set a)
  | record {l : List (Str × RTy × Bool)} {l' : List (Str × ATy × Bool)} (f : Str → ATy) : (l'.map (·.1)).Pairwise leS → (l'.map (·.1)).Perm (l.map (·.1)) →
      (∀ k t o, (k, t, o) ∈ l → (k, f k, o) ∈ l') → (∀ k t o, (k, t, o) ∈ l → Meant t (f k)) → Meant (.record l) (.record l')
  | ent (s : Str) : Meant (.ent s) (.ent s)
theorem Meant.mkRecord {l : List (Str × RTy × Bool)} {l' : List (Str × ATy × Bool)} (hn : (l.map (·.1)).Nodup) (hs : (l'.map (·.1)).Pairwise leS) (hp : (l'.map (·.1)).Perm (l.map (·.1))) (h : ∀ x ∈ l', ∃ t, (x.1, t, x.2.2) ∈ l ∧ Meant t x.2.1) : Meant (.record l) (.record l') := by
  have hn' : (l'.map (·.1)).Nodup := hp.nodup_iff.2 hn
  have key : ∀ k t o, (k, t, o) ∈ l → ∃ a, (k, a, o) ∈ l' ∧ Meant t a ∧ ((kget l' k).map (·.1)).getD .str = a := by
    intro k t o hk
    have : k ∈ l'.map (·.1) := hp.mem_iff.2 (List.mem_map.2 ⟨_, hk, rfl⟩)
    obtain ⟨⟨k', a, o'⟩, hx, rfl⟩ := List.mem_map.1 this
    obtain ⟨t', h1, h2⟩ := h _ hx
    have := key_unique hn hk h1
    simp only [Prod.mk.injEq] at this
    obtain ⟨rfl, rfl⟩ := this
    exact ⟨a, hx, h2, by rw [kget_mem hn' hx]; rfl⟩
  refine .record (fun k => ((kget l' k).map (·.1)).getD .str) hs hp (fun k t o hk => ?_) (fun k t o hk => ?_)
  · obtain ⟨a, h1, h2, h3⟩ := key k t o hk
    rw [h3]; exact h1
  · obtain ⟨a, h1, h2, h3⟩ := key k t o hk
    rw [h3]; exact h2

/-- A resolved type whose records are small. -/
inductive ROk : RTy → Prop
  | str : ROk .str
  | long : ROk .long
  | bool : ROk .bool
  | ext (s : Str) : ROk (.ext s)
  | set {t : RTy} : ROk t → ROk (.set t)
  | record {l : List (Str × RTy × Bool)} : l.length ≤ 3000000 → (∀ k t o, (k, t, o) ∈ l → k.size ≤ 3000000) → (∀ k t o, (k, t, o) ∈ l → ROk t) → ROk (.record l)
  | ent (s : Str) : ROk (.ent s)

/-- The answers. -/
def MeantTy (w : World) (t : RTy) (e : Ending) (w' : World) : Prop := ∃ a k s el al, Meant t a ∧ e = .returned (tyV k s el al) ∧ OTyIs w' (· < w.heap.size) a (tyV k s el al) ∧ Keep NoB w w'
def MeantRec (w : World) (l : List (Str × RTy × Bool)) (e : Ending) (w' : World) : Prop := ∃ l' o c, Meant (.record l) (.record l') ∧ e = .returned (.slice o l'.length c) ∧ (∀ s e, OTyIs w' (· < w.heap.size) (.record l') (tyV 6 s e (o, l'.length, c))) ∧ Keep NoB w w'

theorem infoAttr : (Tryz.prog.info? 155).map (fun i => (i.zero, i.size, i.bytes)) = some (some (.agg #[.string ⟨#[]⟩, .bool false, .int .i64 0, .string ⟨#[]⟩, .slice none 0 0, .slice none 0 0]), 6, 96) := by kernel_rfl
theorem zeroRAttr (w : World) : (zeroValue 153).run Tryz.prog w = .ok (.agg #[.nilIface, .bool false, .map none]) w := by kernel_rfl
theorem rattr_f0 (a b c : Value) (w : World) : (Instr.field 153 (.agg #[a, b, c]) 0).run Tryz.prog w = .ok a w := by kernel_rfl
theorem rattr_f1 (a b c : Value) (w : World) : (Instr.field 153 (.agg #[a, b, c]) 1).run Tryz.prog w = .ok b w := by kernel_rfl

set_option maxRecDepth 100000 in
set_option maxHeartbeats 8000000 in
theorem meantAttrs_c (w0 : World) (l : List (Str × RTy × Bool)) (m : Option Nat) (lv : List (Str × Value)) (f : Str → Value) (an : Str → Option Nat)
    (hm : KMapO Value.string w0 m lv) (hn : (l.map (·.1)).Nodup) (hl : lv.length = l.length) (ha : ∀ k t o, (k, t, o) ∈ l → (k, .agg #[f k, .bool o, .map (an k)]) ∈ lv)
    (hL : l.length ≤ 3000000) (hz : ∀ k t o, (k, t, o) ∈ l → k.size ≤ 3000000) (hc : ∀ k t o, (k, t, o) ∈ l → ∀ w, Keep NoB w0 w → Calls Tryz.prog 17 #[f k] w (MeantTy w t)) (w : World) (k0 : Keep NoB w0 w) :
    Calls Tryz.prog 16 #[.map m] w (MeantRec w l) := by
  obtain ⟨iU, hiU, hzU, hsU, hbU⟩ := info_parts infoAttr
  have HU := Lib.hid (And.intro hiU (And.intro hzU (And.intro hsU hbU)))
  have hlvn := hm.nodup
  have hback := entry_back (κ := Str) (α := RTy × Bool) hn hlvn hl (fun k x => .agg #[f k, .bool x.2, .map (an k)]) (fun k x hx => ha k x.1 x.2 hx)
  have hperm : (lv.map (·.1)).Perm (l.map (·.1)) := by
    refine (List.perm_ext_iff_of_nodup hlvn hn).2 fun k => ⟨fun h => ?_, fun h => ?_⟩
    · obtain ⟨⟨k, v⟩, h1, rfl⟩ := List.mem_map.1 h
      obtain ⟨x, hx, _⟩ := hback k v h1
      exact List.mem_map.2 ⟨_, hx, rfl⟩
    · obtain ⟨⟨k, t, o⟩, h1, rfl⟩ := List.mem_map.1 h
      exact List.mem_map.2 ⟨_, ha k t o h1, rfl⟩
  have HK := Lib.hid (keysRec_c w m)
  have HS := Lib.hid (sortedRec_c w m lv (hm.keep k0 (fun _ _ => NoB.not _)) (by omega) (fun p hp => by
    obtain ⟨x, hx, _⟩ := hback p.1 p.2 hp
    exact hz p.1 x.1 x.2 hx))
  have HL := Lib.hid (show ∀ k t o, (k, t, o) ∈ l → ∀ x, Keep NoB w0 x → (Instr.lookup 75 (.map m) (.string k) false).run Tryz.prog x = .ok (.agg #[f k, .bool o, .map (an k)]) x from fun k t o hk x hx => by
    rw [KMapO.lookup (hm.keep hx (fun _ _ => NoB.not _)) (strKey Tryz.underlying94) Tryz.underlying75 (zeroRAttr x) k false, kget_mem hlvn (ha k t o hk)]; rfl)
  have HA := Lib.hid (And.intro hn (And.intro hperm (And.intro hL (And.intro hc k0))))
  have HB := Lib.hid hl
  clear hm hn hl ha hL hz hc k0 hlvn hback hperm hiU hzU hsU hbU
  go_enter Tryz.func16, Tryz.ntmps16
  go_wp2_with fail
  refine HK.out.mono ?_
  rintro e w1 ⟨rfl, hw1⟩
  subst hw1
  go_wp2_with fail
  refine HS.out.mono ?_
  rintro e w2 ⟨ks, o, c, rfl, hp, hpw, hat, k2⟩
  obtain ⟨n, hkn⟩ : ∃ n, n = ks.length := ⟨_, rfl⟩
  rw [← hkn]
  have hnL : n ≤ 3000000 := by
    have h1 := (hp.trans HA.out.2.1).length_eq
    have h2 := HA.out.2.2.1
    rw [List.length_map] at h1; omega
  have HC := Lib.hid (And.intro hkn (And.intro hp (And.intro hpw (And.intro hat k2))))
  clear hkn hp hpw hat k2
  go_wp2_with fail
  go_loopg [3, 5, 10] n (fun g sl t5 i wr => ∃ (j : Nat) (l' : List (Str × ATy × Bool)), j + g = n ∧ i = .int .i64 j ∧ Keep NoB w2 wr ∧ RowIs AttrC wr w2.heap.size 155 6 sl l' ∧ l'.map (·.1) = ks.take j ∧ ∀ x ∈ l', ∃ t, (x.1, t, x.2.2) ∈ l ∧ Meant t x.2.1)
  case atStart => exact ⟨0, [], by omega, rfl, Keep.refl _ _, RowIs.nil _ _ _ _ _, rfl, fun _ h => by simp at h⟩
  case round =>
    obtain ⟨j, l', hj, rfl, hk, hrow, hkeys, hdone⟩ := hrel
    have hlen : l'.length = j := by
      have h1 := congrArg List.length hkeys
      have h2 := HC.out.1
      rw [List.length_map, List.length_take] at h1; omega
    have HR := Lib.hid (And.intro hk (And.intro hrow (And.intro hkeys (And.intro hdone hlen))))
    clear hk hrow hkeys hdone hlen
    by_cases hlt : j < n
    · obtain ⟨hkn, hp, hpw, hat, k2⟩ := HC.out
      obtain ⟨hk, hrow, hkeys, hdone, hlen⟩ := HR.out
      obtain ⟨kj, hkj⟩ : ∃ kj, ks[j]? = some kj := ⟨_, List.getElem?_eq_getElem (by omega)⟩
      obtain ⟨t, ob, hm⟩ : ∃ t ob, (kj, t, ob) ∈ l := by
        have h1 : kj ∈ l.map (·.1) := (hp.trans HA.out.2.1).mem_iff.1 (List.mem_of_getElem? hkj)
        obtain ⟨⟨k, t, o⟩, h2, rfl⟩ := List.mem_map.1 h1
        exact ⟨t, o, h2⟩
      obtain ⟨ov', c2, he, hcells⟩ := hat
      simp only [Value.slice.injEq] at he
      obtain ⟨rfl, hx, rfl⟩ := he
      clear hx
      rcases hcells with h0 | ⟨bv, offv, rfl, hMv, hcell⟩
      · omega
      have hcv := (hcell j (by omega)).2.keep hk (NoB.not _) 0 _ rfl
      simp only [Nat.mul_one, Nat.add_zero] at hcv
      have hkj' : ks.getD j ⟨#[]⟩ = kj := by rw [List.getD_eq_getElem?_getD, hkj]; rfl
      rw [hkj'] at hcv
      have kwr : Keep NoB w0 wr := ((HA.out.2.2.2.2).then k2).then hk
      have HM := Lib.hid (And.intro hm (And.intro hkj kwr))
      have HQ := Lib.hid (HA.out.2.2.2.1 kj t ob hm)
      have HLk := Lib.hid (HL.out kj t ob hm)
      have hlk := HL.out kj t ob hm wr.drew (kwr.then (Keep.drew _ _))
      clear hkn hp hpw k2 hk hrow hkeys hdone hlen hkj hm hMv hcell hkj' kwr
      obtain ⟨w3, rfl⟩ : ∃ w3 : World, w3 = wr := ⟨_, rfl⟩
      go_wp2_with fail
      clear hcv
      have hf0 := rattr_f0
      have hf1 := rattr_f1
      go_region_held3 (fun x => (Instr.lookup 75 (.map m) (.string kj) false).run Tryz.prog x = .ok (.agg #[f kj, .bool ob, .map (an kj)]) x)
        (first | assumption | exact HLk.out _ ((HM.out.2.2.then (Keep.drew _ _)).then k4) | exact HLk.out _ (((HM.out.2.2.then (Keep.drew _ _)).then k4).then (Keep.alloc _ _ _)) | exact HLk.out _ (HX.out.1))
        ((first
          | (go_at_call 17; refine (HQ.out _ (HM.out.2.2.then (Keep.drew _ _))).mono ?_; rintro e w4 ⟨a, kk, s, el, al, hmt, rfl, hty, k4⟩)
          | (obtain ⟨xs, hown, hpush⟩ := ((HR.out.2.1.keep0 AttrC.keeps ((Keep.drew _ _).then k4)).keep0 AttrC.keeps (Keep.alloc w4 (.cells #[.string kj, .bool ob, .int .i64 kk, .string s, .slice el.1 el.2.1 el.2.2, .slice al.1 al.2.1 al.2.2] 155) NoB)).opened AttrC.keeps
             refine step_append_lies _ (by rfl) _ _ _ (by rfl) w2.heap.size 155 iU _ 6 96 Tryz.underlying28 HU.out.1 HU.out.2.1 HU.out.2.2.1 HU.out.2.2.2 rfl (by omega) _ _ xs (by rfl) hown
               ⟨w4.heap.size, 0, none⟩ 1 1 [.string kj, .bool ob, .int .i64 kk, .string s, .slice el.1 el.2.1 el.2.2, .slice al.1 al.2.1 al.2.2] (by rfl) (by rfl) (World.news_of_block (cs := #[.string kj, .bool ob, .int .i64 kk, .string s, .slice el.1 el.2.1 el.2.2, .slice al.1 al.2.1 al.2.2]) (t := 155) (fr := (0, 0)) (heap_alloc_new w4 _)) (by simp [Value.oneCell'])
               (by omega) (by rw [HR.out.2.2.2.2]; unfold maxLen; omega) (by rw [HR.out.2.2.2.2]; omega) (by have h1 := HR.out.1.size; have h2 := k4.size; simp at h2; simp; omega) (w4.heap.size + 1) (by simp) ?_
             intro gg cap w5 hown5 hgrow hgat hglt
             obtain ⟨hr5, hk5⟩ := hpush gg cap w5 (kj, a, ob) [.string kj, .bool ob, .int .i64 kk, .string s, .slice el.1 el.2.1 el.2.2, .slice al.1 al.2.1 al.2.2] rfl
               ⟨kk, s, el, al, rfl, hty.keep (Keep.alloc _ _ NoB) (fun _ _ h => h.elim) (fun i hi h => by
                 have h1 := HR.out.1.size
                 rcases h with h | h
                 · exact (HR.out.2.1.lt i h).2
                 · show i < _; simp; omega)⟩ hown5 hgrow (by simpa using hgat)
             have kk5 := (((HR.out.1.then (Keep.drew _ _)).then k4).then (Keep.alloc _ _ _)).trans hk5 (M'' := NoB) (fun _ _ h => h) (fun i hi h => by have := (HR.out.2.1.lt i h).1; omega)
             have HX := Lib.hid (And.intro (((HA.out.2.2.2.2).then HC.out.2.2.2.2).then kk5) (And.intro kk5 (And.intro hr5 hmt)))
             clear hr5 hk5 kk5 hown5 hgrow hgat hglt hown hpush hty k4 hmt)))
      all_goals
        clear hf0 hf1 hlk
        go_wp2_with fail
        go_roundg (gk - 1)
        case measure => omega
        case rel =>
          obtain ⟨_, kk5, hr5, hmt⟩ := HX.out
          refine ⟨j + 1, l' ++ [(kj, a, ob)], by omega, by go_num, kk5, hr5, ?_, fun x hx => ?_⟩
          · obtain ⟨hj1, hj2⟩ := List.getElem?_eq_some_iff.1 HM.out.2.1
            rw [List.map_append, HR.out.2.2.1, List.take_succ_eq_append_getElem hj1, hj2]; rfl
          · rcases List.mem_append.1 hx with hx | hx
            · exact HR.out.2.2.2.1 x hx
            · simp only [List.mem_singleton] at hx
              subst hx
              exact ⟨t, HM.out.1, hmt⟩
    · have hjn : j = n := by omega
      subst hjn
      obtain ⟨o', c', hsl⟩ := HR.out.2.1.shape
      subst hsl
      clear hj
      go_wp2_with fail
      go_ret
      obtain ⟨hk, hrow, hkeys, hdone, hlen⟩ := HR.out
      obtain ⟨hkn, hp, hpw, hat, k2⟩ := HC.out
      rw [hkn, List.take_length] at hkeys
      obtain ⟨ov, cv, hv, hov⟩ := hrow.over AttrC.keeps
      cases hv
      refine ⟨l', _, _, Meant.mkRecord HA.out.1 (hkeys ▸ hpw) (hkeys ▸ (hp.trans HA.out.2.1)) hdone, rfl, fun s e => OTyIs.mkRecord ?_ s e _, k2.then hk⟩
      rcases hov with h | ⟨b, e1, hb, hov⟩
      · exact .inl h
      · have hs2 := k2.size
        refine .inr ⟨b, 0, e1, fun h => by omega, fun i x hx => ?_⟩
        obtain ⟨cs, _, h1, h2⟩ := hov i x hx
        exact ⟨cs, h1, AttrC.keeps.k (Keep.refl NoB _) (fun _ _ h => h.elim) (fun i _ h => by show i < _; omega) h2⟩

/-- A record or none: what a shape reads as. -/
theorem meantAttrs_of {w0 : World} {M : Nat → Prop} {l : List (Str × RTy × Bool)} {b : Nat} (h : RTyIs w0 M (.record l) (.iface 75 (.map (some b)))) (hok : ROk (.record l))
    (ih : ∀ t v, ROk t → RTyIs w0 M t v → ∀ w, Keep NoB w0 w → Calls Tryz.prog 17 #[v] w (MeantTy w t)) : ∀ w, Keep NoB w0 w → Calls Tryz.prog 16 #[.map (some b)] w (MeantRec w l) := by
  intro w k
  cases hok with
  | record hL hz hall =>
    cases h with
    | record hm hM hn hl ha ht =>
      exact meantAttrs_c w0 l (some b) _ _ _ hm hn hl ha hL hz (fun k t o hk => ih t _ (hall k t o hk) (ht k t o hk)) w k
theorem meantAttrs_none (w : World) : Calls Tryz.prog 16 #[.map none] w (MeantRec w []) :=
  meantAttrs_c w [] none [] (fun _ => .nilIface) (fun _ => none) rfl (by simp) rfl (fun _ _ _ h => by simp at h) (by simp) (fun _ _ _ h => by simp at h) (fun _ _ _ h => by simp at h) w (Keep.refl _ _)
end Go.Proofs.YtedgonoeeeiilaaGreatDoor
/- The walk of meantType. -/
namespace Go.Proofs.YtedgonoeeeiilaaGreatDoor
open Go.RowKit

theorem set4 (w : World) (b : Nat) (T : TypeId) (v0 v1 v2 v3 : Value) {a0 a1 a2 a3 : Value} (h : w.heap[b]? = some (.cells #[a0, a1, a2, a3] T (0, 0))) :
    ∃ wz, wz = (((w.setCell ⟨b, 0, none⟩ v0).setCell ⟨b, 1, none⟩ v1).setCell ⟨b, 2, none⟩ v2).setCell ⟨b, 3, none⟩ v3 ∧ Keep (· = b) w wz ∧ wz.heap[b]? = some (.cells #[v0, v1, v2, v3] T (0, 0)) ∧
      wz.cell? ⟨b, 0, none⟩ = some v0 ∧ wz.cell? ⟨b, 1, none⟩ = some v1 ∧ wz.cell? ⟨b, 2, none⟩ = some v2 ∧ wz.cell? ⟨b, 3, none⟩ = some v3 := by
  have kst : ∀ (u : World) (i : Nat) (v : Value), Keep (· = b) u (u.setCell ⟨b, i, none⟩ v) := fun u i v => Keep.setCell _ _ _ (fun _ => rfl)
  have kj : ∀ {u v x : World}, Keep (· = b) u v → Keep (· = b) v x → Keep (· = b) u x := fun h1 h2 => h1.trans h2 (fun _ _ h => h) (fun _ _ h => h)
  have hz : ((((w.setCell ⟨b, 0, none⟩ v0).setCell ⟨b, 1, none⟩ v1).setCell ⟨b, 2, none⟩ v2).setCell ⟨b, 3, none⟩ v3).heap[b]? = some (.cells #[v0, v1, v2, v3] T (0, 0)) :=
    setCell_cells (setCell_cells (setCell_cells (setCell_cells h 0 v0) 1 v1) 2 v2) 3 v3
  exact ⟨_, rfl, kj (kj (kj (kst w 0 v0) (kst _ 1 v1)) (kst _ 2 v2)) (kst _ 3 v3), hz, by rw [cell_cells hz]; rfl, by rw [cell_cells hz]; rfl, by rw [cell_cells hz]; rfl, by rw [cell_cells hz]; rfl⟩

theorem set3 (w : World) (b : Nat) (T : TypeId) (v0 v1 v2 : Value) {a0 a1 a2 : Value} (h : w.heap[b]? = some (.cells #[a0, a1, a2] T (0, 0))) :
    ∃ wz, wz = ((w.setCell ⟨b, 0, none⟩ v0).setCell ⟨b, 1, none⟩ v1).setCell ⟨b, 2, none⟩ v2 ∧ Keep (· = b) w wz ∧ wz.heap[b]? = some (.cells #[v0, v1, v2] T (0, 0)) ∧
      wz.cell? ⟨b, 0, none⟩ = some v0 ∧ wz.cell? ⟨b, 1, none⟩ = some v1 ∧ wz.cell? ⟨b, 2, none⟩ = some v2 := by
  have kst : ∀ (u : World) (i : Nat) (v : Value), Keep (· = b) u (u.setCell ⟨b, i, none⟩ v) := fun u i v => Keep.setCell _ _ _ (fun _ => rfl)
  have kj : ∀ {u v x : World}, Keep (· = b) u v → Keep (· = b) v x → Keep (· = b) u x := fun h1 h2 => h1.trans h2 (fun _ _ h => h) (fun _ _ h => h)
  have hz : (((w.setCell ⟨b, 0, none⟩ v0).setCell ⟨b, 1, none⟩ v1).setCell ⟨b, 2, none⟩ v2).heap[b]? = some (.cells #[v0, v1, v2] T (0, 0)) :=
    setCell_cells (setCell_cells (setCell_cells h 0 v0) 1 v1) 2 v2
  exact ⟨_, rfl, kj (kj (kst w 0 v0) (kst _ 1 v1)) (kst _ 2 v2), hz, by rw [cell_cells hz]; rfl, by rw [cell_cells hz]; rfl, by rw [cell_cells hz]; rfl⟩

theorem set8 (w : World) (b : Nat) (T : TypeId) (v0 v1 v2 v3 v4 v5 v6 v7 : Value) {a0 a1 a2 a3 a4 a5 a6 a7 : Value} (h : w.heap[b]? = some (.cells #[a0, a1, a2, a3, a4, a5, a6, a7] T (0, 0))) :
    ∃ wz, wz = ((((((((w.setCell ⟨b, 0, none⟩ v0).setCell ⟨b, 1, none⟩ v1).setCell ⟨b, 2, none⟩ v2).setCell ⟨b, 3, none⟩ v3).setCell ⟨b, 4, none⟩ v4).setCell ⟨b, 5, none⟩ v5).setCell ⟨b, 6, none⟩ v6).setCell ⟨b, 7, none⟩ v7) ∧ Keep (· = b) w wz ∧ wz.heap[b]? = some (.cells #[v0, v1, v2, v3, v4, v5, v6, v7] T (0, 0)) := by
  have kst : ∀ (u : World) (i : Nat) (v : Value), Keep (· = b) u (u.setCell ⟨b, i, none⟩ v) := fun u i v => Keep.setCell _ _ _ (fun _ => rfl)
  have kj : ∀ {u v x : World}, Keep (· = b) u v → Keep (· = b) v x → Keep (· = b) u x := fun h1 h2 => h1.trans h2 (fun _ _ h => h) (fun _ _ h => h)
  have h0 : (w.setCell ⟨b, 0, none⟩ v0).heap[b]? = some (.cells #[v0, a1, a2, a3, a4, a5, a6, a7] T (0, 0)) := setCell_cells h 0 v0
  have h1 : ((w.setCell ⟨b, 0, none⟩ v0).setCell ⟨b, 1, none⟩ v1).heap[b]? = some (.cells #[v0, v1, a2, a3, a4, a5, a6, a7] T (0, 0)) := setCell_cells h0 1 v1
  have h2 : (((w.setCell ⟨b, 0, none⟩ v0).setCell ⟨b, 1, none⟩ v1).setCell ⟨b, 2, none⟩ v2).heap[b]? = some (.cells #[v0, v1, v2, a3, a4, a5, a6, a7] T (0, 0)) := setCell_cells h1 2 v2
  have h3 : ((((w.setCell ⟨b, 0, none⟩ v0).setCell ⟨b, 1, none⟩ v1).setCell ⟨b, 2, none⟩ v2).setCell ⟨b, 3, none⟩ v3).heap[b]? = some (.cells #[v0, v1, v2, v3, a4, a5, a6, a7] T (0, 0)) := setCell_cells h2 3 v3
  have h4 : (((((w.setCell ⟨b, 0, none⟩ v0).setCell ⟨b, 1, none⟩ v1).setCell ⟨b, 2, none⟩ v2).setCell ⟨b, 3, none⟩ v3).setCell ⟨b, 4, none⟩ v4).heap[b]? = some (.cells #[v0, v1, v2, v3, v4, a5, a6, a7] T (0, 0)) := setCell_cells h3 4 v4
  have h5 : ((((((w.setCell ⟨b, 0, none⟩ v0).setCell ⟨b, 1, none⟩ v1).setCell ⟨b, 2, none⟩ v2).setCell ⟨b, 3, none⟩ v3).setCell ⟨b, 4, none⟩ v4).setCell ⟨b, 5, none⟩ v5).heap[b]? = some (.cells #[v0, v1, v2, v3, v4, v5, a6, a7] T (0, 0)) := setCell_cells h4 5 v5
  have h6 : (((((((w.setCell ⟨b, 0, none⟩ v0).setCell ⟨b, 1, none⟩ v1).setCell ⟨b, 2, none⟩ v2).setCell ⟨b, 3, none⟩ v3).setCell ⟨b, 4, none⟩ v4).setCell ⟨b, 5, none⟩ v5).setCell ⟨b, 6, none⟩ v6).heap[b]? = some (.cells #[v0, v1, v2, v3, v4, v5, v6, a7] T (0, 0)) := setCell_cells h5 6 v6
  have h7 : ((((((((w.setCell ⟨b, 0, none⟩ v0).setCell ⟨b, 1, none⟩ v1).setCell ⟨b, 2, none⟩ v2).setCell ⟨b, 3, none⟩ v3).setCell ⟨b, 4, none⟩ v4).setCell ⟨b, 5, none⟩ v5).setCell ⟨b, 6, none⟩ v6).setCell ⟨b, 7, none⟩ v7).heap[b]? = some (.cells #[v0, v1, v2, v3, v4, v5, v6, v7] T (0, 0)) := setCell_cells h6 7 v7
  exact ⟨_, rfl, kj (kj (kj (kj (kj (kj (kj (kst w 0 v0) (kst _ 1 v1)) (kst _ 2 v2)) (kst _ 3 v3)) (kst _ 4 v4)) (kst _ 5 v5)) (kst _ 6 v6)) (kst _ 7 v7), h7⟩
theorem cells8 {w : World} {b : Nat} {T : TypeId} {a0 a1 a2 a3 a4 a5 a6 a7 : Value} (h : w.heap[b]? = some (.cells #[a0, a1, a2, a3, a4, a5, a6, a7] T (0, 0))) :
    w.cell? ⟨b, 0, none⟩ = some a0 ∧ w.cell? ⟨b, 1, none⟩ = some a1 ∧ w.cell? ⟨b, 2, none⟩ = some a2 ∧ w.cell? ⟨b, 3, none⟩ = some a3 ∧ w.cell? ⟨b, 4, none⟩ = some a4 ∧ w.cell? ⟨b, 5, none⟩ = some a5 ∧ w.cell? ⟨b, 6, none⟩ = some a6 ∧ w.cell? ⟨b, 7, none⟩ = some a7 ∧ w.frozen? ⟨b, 0, none⟩ = false ∧ w.frozen? ⟨b, 1, none⟩ = false ∧ w.frozen? ⟨b, 2, none⟩ = false ∧ w.frozen? ⟨b, 3, none⟩ = false ∧ w.frozen? ⟨b, 4, none⟩ = false ∧ w.frozen? ⟨b, 5, none⟩ = false ∧ w.frozen? ⟨b, 6, none⟩ = false ∧ w.frozen? ⟨b, 7, none⟩ = false :=
  ⟨by rw [cell_cells h]; rfl, by rw [cell_cells h]; rfl, by rw [cell_cells h]; rfl, by rw [cell_cells h]; rfl, by rw [cell_cells h]; rfl, by rw [cell_cells h]; rfl, by rw [cell_cells h]; rfl, by rw [cell_cells h]; rfl, frozen_cells h 0, frozen_cells h 1, frozen_cells h 2, frozen_cells h 3, frozen_cells h 4, frozen_cells h 5, frozen_cells h 6, frozen_cells h 7⟩

theorem mt_str (w : World) : Calls Tryz.prog 17 #[.iface 157 (.agg #[])] w (MeantTy w .str) := by
  have t0 := taY_rStr (.agg #[])
  go_enter Tryz.func17, Tryz.ntmps17
  go_wp2_with fail
  refine bodyPost_ret (v := tyV 1 ⟨#[]⟩ (none, 0, 0) (none, 0, 0)) ?_ rfl ⟨_, _, _, _, _, .str, rfl, .str _ _ _, (Keep.alloc _ _ NoB).then (Keep.alloc _ _ NoB)⟩
  simp [results, Tryz.results17, go_sem, Result.andThen]
theorem mt_long (w : World) : Calls Tryz.prog 17 #[.iface 158 (.agg #[])] w (MeantTy w .long) := by
  have t0 := taN_rStr 158 (by decide) (.agg #[])
  have t1 := taY_rLong (.agg #[])
  go_enter Tryz.func17, Tryz.ntmps17
  go_wp2_with fail
  refine bodyPost_ret (v := tyV 2 ⟨#[]⟩ (none, 0, 0) (none, 0, 0)) ?_ rfl ⟨_, _, _, _, _, .long, rfl, .long _ _ _, (Keep.alloc _ _ NoB).then (Keep.alloc _ _ NoB)⟩
  simp [results, Tryz.results17, go_sem, Result.andThen]
theorem mt_bool (w : World) : Calls Tryz.prog 17 #[.iface 159 (.agg #[])] w (MeantTy w .bool) := by
  have t0 := taN_rStr 159 (by decide) (.agg #[])
  have t1 := taN_rLong 159 (by decide) (.agg #[])
  have t2 := taY_rBool (.agg #[])
  go_enter Tryz.func17, Tryz.ntmps17
  go_wp2_with fail
  refine bodyPost_ret (v := tyV 3 ⟨#[]⟩ (none, 0, 0) (none, 0, 0)) ?_ rfl ⟨_, _, _, _, _, .bool, rfl, .bool _ _ _, (Keep.alloc _ _ NoB).then (Keep.alloc _ _ NoB)⟩
  simp [results, Tryz.results17, go_sem, Result.andThen]
theorem mt_ext (w : World) (s : Str) : Calls Tryz.prog 17 #[.iface 160 (.string s)] w (MeantTy w (.ext s)) := by
  have t0 := taN_rStr 160 (by decide) (.string s)
  have t1 := taN_rLong 160 (by decide) (.string s)
  have t2 := taN_rBool 160 (by decide) (.string s)
  have t3 := taY_rExt (.string s)
  go_enter Tryz.func17, Tryz.ntmps17
  go_wp2_with fail
  refine bodyPost_ret (v := tyV 4 s (none, 0, 0) (none, 0, 0)) ?_ rfl ⟨_, _, _, _, _, .ext s, rfl, .ext _ _ _, Keep.alloc _ _ NoB⟩
  simp [results, Tryz.results17, go_sem, Result.andThen]
theorem mt_ent (w : World) (s : Str) : Calls Tryz.prog 17 #[.iface 163 (.string s)] w (MeantTy w (.ent s)) :=
  (meantType_ent_c w s).mono fun _ _ ⟨_, _, he, hk⟩ => ⟨_, _, _, _, _, .ent s, he, .ent _ _ _, hk⟩
set_option maxRecDepth 100000 in
theorem mt_set (w : World) (t : RTy) (T : TypeId) (x : Value) (h : ∀ w1, Keep NoB w w1 → Calls Tryz.prog 17 #[.iface T x] w1 (MeantTy w1 t)) : Calls Tryz.prog 17 #[.iface 162 (.agg #[.iface T x])] w (MeantTy w (.set t)) := by
  have t0 := taN_rStr 162 (by decide) (.agg #[.iface T x])
  have t1 := taN_rLong 162 (by decide) (.agg #[.iface T x])
  have t2 := taN_rBool 162 (by decide) (.agg #[.iface T x])
  have t3 := taN_rExt 162 (by decide) (.agg #[.iface T x])
  have t4 := taY_rSet (.agg #[.iface T x])
  have hb0 := (Keep.alloc (w.alloc (.cells #[.int .i64 0, .string ⟨#[]⟩, .slice none 0 0, .slice none 0 0] 30)) (.cells #[.iface T x] 162) NoB).heap (MapKept.heap_alloc w (.cells #[.int .i64 0, .string ⟨#[]⟩, .slice none 0 0, .slice none 0 0] 30)).1 (NoB.not _)
  have HA := Lib.hid (And.intro h hb0)
  clear h hb0
  go_enter Tryz.func17, Tryz.ntmps17
  go_wp2_with fail
  refine (HA.out.1 _ ((Keep.alloc _ _ NoB).then (Keep.alloc _ _ NoB))).mono ?_
  rintro e w2 ⟨a, k, s, el, al, hmt, rfl, hty, k2⟩
  have hb2 := k2.heap HA.out.2 (NoB.not _)
  have hb3 := (Keep.alloc w2 (.cells #[.int .i64 k, .string s, .slice el.1 el.2.1 el.2.2, .slice al.1 al.2.1 al.2.2] 30) NoB).heap hb2 (NoB.not _)
  have hlt : w.heap.size < w2.heap.size := by have := k2.size; simp at this; omega
  have z0 := frozen_cells hb3 0
  have z1 := frozen_cells hb3 1
  have z2 := frozen_cells hb3 2
  have z3 := frozen_cells hb3 3
  have c0 : (w2.alloc (.cells #[.int .i64 k, .string s, .slice el.1 el.2.1 el.2.2, .slice al.1 al.2.1 al.2.2] 30)).cell? ⟨w.heap.size, 0, none⟩ = some (.int .i64 0) := by rw [cell_cells hb3]; rfl
  have c1 : (w2.alloc (.cells #[.int .i64 k, .string s, .slice el.1 el.2.1 el.2.2, .slice al.1 al.2.1 al.2.2] 30)).cell? ⟨w.heap.size, 1, none⟩ = some (.string ⟨#[]⟩) := by rw [cell_cells hb3]; rfl
  have c2 : (w2.alloc (.cells #[.int .i64 k, .string s, .slice el.1 el.2.1 el.2.2, .slice al.1 al.2.1 al.2.2] 30)).cell? ⟨w.heap.size, 2, none⟩ = some (.slice none 0 0) := by rw [cell_cells hb3]; rfl
  have c3 : (w2.alloc (.cells #[.int .i64 k, .string s, .slice el.1 el.2.1 el.2.2, .slice al.1 al.2.1 al.2.2] 30)).cell? ⟨w.heap.size, 3, none⟩ = some (.slice none 0 0) := by rw [cell_cells hb3]; rfl
  have HB := Lib.hid (And.intro hmt (And.intro hty (And.intro k2 (And.intro hb3 hlt))))
  clear hmt hty k2 hb2 hb3 hlt t0 t1 t2 t3 t4
  go_wp2_with fail
  obtain ⟨hmt, hty, k2, hb3, hlt⟩ := HB.out
  obtain ⟨wz, hwz, ks, hz, q0, q1, q2, q3⟩ := set4 _ _ _ (.int .i64 5) (.string ⟨#[]⟩) (.slice (some ⟨w2.heap.size, 0, none⟩) 1 1) (.slice none 0 0) hb3
  rw [← hwz]
  clear hwz z0 z1 z2 z3 c0 c1 c2 c3
  have k02 : Keep NoB w (w2.alloc (.cells #[.int .i64 k, .string s, .slice el.1 el.2.1 el.2.2, .slice al.1 al.2.1 al.2.2] 30)) := (((Keep.alloc _ _ NoB).then (Keep.alloc _ _ NoB)).then k2).then (Keep.alloc _ _ NoB)
  have hnew := (MapKept.heap_alloc w2 (.cells #[.int .i64 k, .string s, .slice el.1 el.2.1 el.2.2, .slice al.1 al.2.1 al.2.2] 30)).1
  have hnew' := ks.heap hnew (by omega)
  refine bodyPost_ret (v := tyV 5 ⟨#[]⟩ (some ⟨w2.heap.size, 0, none⟩, 1, 1) (none, 0, 0)) ?_ rfl ⟨_, _, _, _, _, .set hmt, rfl, .set _ w2.heap.size 0 1 _ k s el al (by omega) ?_ ?_, k02.trans ks (fun _ _ h => h) (fun i hi h => by omega)⟩
  · simp [results, Tryz.results17, go_sem, q0, q1, q2, q3, Result.andThen]
  · intro j v hj
    rw [Nat.zero_add, cell_cells hnew']
    simpa using hj
  · refine (hty.keep (M' := fun i => i < w.heap.size + 2) (Keep.alloc _ _ NoB) (fun _ _ h => h.elim) (fun i hi h => ?_)).keep ks (fun i hi h => by show i < _; omega) (fun i hi (h : i < _) => by show i < _; omega)
    show i < _
    simp; omega
set_option maxRecDepth 100000 in
theorem mt_rec (w : World) (l : List (Str × RTy × Bool)) (mb : Option Nat) (h : ∀ w1, Keep NoB w w1 → Calls Tryz.prog 16 #[.map mb] w1 (MeantRec w1 l)) : Calls Tryz.prog 17 #[.iface 75 (.map mb)] w (MeantTy w (.record l)) := by
  have t0 := taN_rStr 75 (by decide) (.map mb)
  have t1 := taN_rLong 75 (by decide) (.map mb)
  have t2 := taN_rBool 75 (by decide) (.map mb)
  have t3 := taN_rExt 75 (by decide) (.map mb)
  have t4 := taN_rSet 75 (by decide) (.map mb)
  have t5 := taY_rRec (.map mb)
  have hb0 := (MapKept.heap_alloc w (.cells #[.int .i64 0, .string ⟨#[]⟩, .slice none 0 0, .slice none 0 0] 30)).1
  have HA := Lib.hid (And.intro h hb0)
  clear h hb0
  go_enter Tryz.func17, Tryz.ntmps17
  go_wp2_with fail
  refine (HA.out.1 _ (Keep.alloc _ _ NoB)).mono ?_
  rintro e w2 ⟨l', o, c, hmt, rfl, hty, k2⟩
  have hb3 := k2.heap HA.out.2 (NoB.not _)
  have hlt : w.heap.size < w2.heap.size := by have := k2.size; simp at this; omega
  have z0 := frozen_cells hb3 0
  have z1 := frozen_cells hb3 1
  have z2 := frozen_cells hb3 2
  have z3 := frozen_cells hb3 3
  have c0 : w2.cell? ⟨w.heap.size, 0, none⟩ = some (.int .i64 0) := by rw [cell_cells hb3]; rfl
  have c1 : w2.cell? ⟨w.heap.size, 1, none⟩ = some (.string ⟨#[]⟩) := by rw [cell_cells hb3]; rfl
  have c2 : w2.cell? ⟨w.heap.size, 2, none⟩ = some (.slice none 0 0) := by rw [cell_cells hb3]; rfl
  have c3 : w2.cell? ⟨w.heap.size, 3, none⟩ = some (.slice none 0 0) := by rw [cell_cells hb3]; rfl
  have HB := Lib.hid (And.intro hmt (And.intro hty (And.intro k2 (And.intro hb3 hlt))))
  clear hmt hty k2 hb3 hlt t0 t1 t2 t3 t4 t5
  go_wp2_with fail
  obtain ⟨hmt, hty, k2, hb3, hlt⟩ := HB.out
  obtain ⟨wz, hwz, ks, hz, q0, q1, q2, q3⟩ := set4 _ _ _ (.int .i64 6) (.string ⟨#[]⟩) (.slice none 0 0) (.slice o l'.length c) hb3
  rw [← hwz]
  clear hwz z0 z1 z2 z3 c0 c1 c2 c3
  refine bodyPost_ret (v := tyV 6 ⟨#[]⟩ (none, 0, 0) (o, l'.length, c)) ?_ rfl ⟨_, _, _, _, _, hmt, rfl, (hty _ _).keep ks (fun i hi h => by show i < _; simp; omega) (fun i hi (h : i < _) => by show i < _; simp; omega), ((Keep.alloc _ _ NoB).then k2).trans ks (fun _ _ h => h) (fun i hi h => by omega)⟩
  simp [results, Tryz.results17, go_sem, q0, q1, q2, q3, Result.andThen]

theorem meantType_c {w0 : World} {M : Nat → Prop} {t : RTy} {v : Value} (h : RTyIs w0 M t v) : ROk t → ∀ w, Keep NoB w0 w → Calls Tryz.prog 17 #[v] w (MeantTy w t) := by
  induction h with
  | str => exact fun _ w _ => mt_str w
  | long => exact fun _ w _ => mt_long w
  | bool => exact fun _ w _ => mt_bool w
  | ext s _ => exact fun _ w _ => mt_ext w s
  | @set t v hv ih =>
    intro hok w k
    cases hok with
    | set hok =>
      obtain ⟨T, x, rfl⟩ := hv.iface
      exact mt_set w t T x fun w1 k1 => ih hok w1 (k.then k1)
  | record hm hM hn hl ha ht ih =>
    intro hok w k
    cases hok with
    | record hL hz hall => exact mt_rec w _ _ fun w1 k1 => meantAttrs_c _ _ (some _) _ _ _ hm hn hl ha hL hz (fun k t o hk => ih k t o hk (hall k t o hk)) w1 (k.then k1)
  | ent s _ => exact fun _ w _ => mt_ent w s
end Go.Proofs.YtedgonoeeeiilaaGreatDoor
/- What a resolved action means: as it is told; the sorted identifiers of a map. -/
namespace Go.Proofs.YtedgonoeeeiilaaGreatDoor
open Go.RowKit

/-- What an action is told to be. -/
structure OAct where
  parents : List Uid
  app : Option (List Str × List Str × List (Str × ATy × Bool))
structure OActIs (w : World) (M : Nat → Prop) (a : OAct) (ps prs rss cs : Sl) : Prop where
  par : UidsAt w M a.parents (slV ps)
  app : ∀ x, a.app = some x → StrsAt w M x.1 (slV prs) ∧ StrsAt w M x.2.1 (slV rss) ∧ ∀ s e', OTyIs w M (.record x.2.2) (tyV 6 s e' cs)
theorem OActIs.keep {w w' : World} {M M' M2 : Nat → Prop} {a : OAct} {ps prs rss cs : Sl} (h : OActIs w M a ps prs rss cs) (hk : Keep M2 w w') (h2 : ∀ i, i < w.heap.size → M2 i → M i) (h3 : ∀ i, i < w.heap.size → M' i → M i) : OActIs w' M' a ps prs rss cs :=
  ⟨UidsAt.keep.k hk h2 h3 h.par, fun x hx => ⟨StrsAt.keep.k hk h2 h3 (h.app x hx).1, StrsAt.keep.k hk h2 h3 (h.app x hx).2.1, fun s e' => ((h.app x hx).2.2 s e').keep hk h2 h3⟩⟩
def ActC (w : World) (M : Nat → Prop) (x : Uid × OAct) (cs : List Value) : Prop :=
  ∃ ps prs rss c, cs = [.string x.1.1, .string x.1.2, slV ps, .bool x.2.app.isSome, slV prs, slV rss, slV c] ∧ OActIs w M x.2 ps prs rss c
theorem ActC.keeps : KeepsC ActC := ⟨fun hk h2 h3 ⟨ps, prs, rss, c, e, h⟩ => ⟨ps, prs, rss, c, e, h.keep hk h2 h3⟩⟩
/-- What a resolved action means. -/
def MeantAct (y : RAct) (a : OAct) : Prop := (∀ u, u ∈ a.parents ↔ u ∈ y.parents) ∧ a.parents.Pairwise (fun x y => ¬ ltU y x) ∧ a.parents.Nodup ∧
  (match y.app, a.app with
    | none, none => True
    | some p, some q => q.1 = p.1 ∧ q.2.1 = p.2.1 ∧ Meant (.record p.2.2) (.record q.2.2)
    | _, _ => False)
structure RActOk (y : RAct) : Prop where
  par : y.parents.length ≤ 1000000
  app : ∀ x, y.app = some x → x.1.length ≤ 1000000 ∧ x.2.1.length ≤ 1000000 ∧ ROk (.record x.2.2)

theorem plainUID_c (u : Uid) (w : World) : Calls Tryz.prog 22 #[.agg #[.string u.1, .string u.2]] w fun e w' => e = .returned (.agg #[.string u.1, .string u.2]) ∧ Keep NoB w w' := by
  go_enter Tryz.func22, Tryz.ntmps22
  go_wp2_with fail
  have h := (MapKept.heap_alloc (w.alloc (.cells #[.string u.1, .string u.2] 96)) (.cells #[.string u.1, .string u.2] 34)).1
  rw [World.size_alloc] at h
  have c0 : ((w.alloc (.cells #[.string u.1, .string u.2] 96)).alloc (.cells #[.string u.1, .string u.2] 34)).cell? ⟨w.heap.size + 1, 0, none⟩ = some (.string u.1) := by rw [cell_cells h]; rfl
  have c1 : ((w.alloc (.cells #[.string u.1, .string u.2] 96)).alloc (.cells #[.string u.1, .string u.2] 34)).cell? ⟨w.heap.size + 1, 1, none⟩ = some (.string u.2) := by rw [cell_cells h]; rfl
  refine bodyPost_ret (v := .agg #[.string u.1, .string u.2]) ?_ rfl ⟨rfl, (Keep.alloc _ _ NoB).then (Keep.alloc _ _ _)⟩
  simp [results, Tryz.results22, go_sem, c0, c1, Result.andThen]

/-- The keys of a map of actions, in order. -/
theorem sortedActs_c (w : World) (o : Nat) (lv : List (Uid × Value)) (h : KMap encU w o lv) (hL : lv.length ≤ 1000000) :
    Calls Tryz.prog 19 #[.func (.func 43) #[] #[.pointer (some ⟨w.heap.size, 0, none⟩)], .func (.func 21) #[] #[]] (w.alloc (.cells #[.map (some o)] 82)) (SortedU (lv.map (·.1)) (w.alloc (.cells #[.map (some o)] 82))) :=
  sortedFuncU_c _ 43 _ o _ lv.length (by have := h.lt; rw [World.size_alloc]; omega) (enters_of Tryz.func43 (by kernel_rfl) rfl)
    (actsSeq 4 (by omega) w.heap.size o lv _ (by rw [cell_cells (MapKept.heap_alloc w _).1]; rfl) (h.keep (Keep.alloc _ _ _) (NoB.not _))) hL (by rw [List.length_map]; exact hL)
/-- Those of a set, in order. -/
theorem sortedSet_c (w : World) (b o : Nat) (lv : List (Uid × Value)) (hb : w.heap[b]? = some (.cells #[.map (some o)] 167 (0, 0))) (h : KMap encU w o lv) (hL : lv.length ≤ 1000000) :
    Calls Tryz.prog 19 #[.func (.func 66) #[] #[.pointer (some ⟨b, 0, none⟩)], .func (.func 21) #[] #[]] w (SortedU (lv.map (·.1)) w) :=
  sortedFuncU_c _ 66 _ o _ lv.length h.lt (enters_of Tryz.func66 (by kernel_rfl) rfl)
    (uidsSeq 4 (by omega) b o lv _ (by rw [cell_cells hb]; rfl) h) hL (by rw [List.length_map]; exact hL)
theorem infoIAct : (Tryz.prog.info? 48).map (fun i => (i.zero, i.size, i.bytes)) = some (some (.agg #[.string ⟨#[]⟩, .string ⟨#[]⟩, .slice none 0 0, .bool false, .slice none 0 0, .slice none 0 0, .slice none 0 0]), 7, 136) := by kernel_rfl
theorem infoIUID : (Tryz.prog.info? 34).map (fun i => (i.zero, i.size, i.bytes)) = some (some (.agg #[.string ⟨#[]⟩, .string ⟨#[]⟩]), 2, 32) := by kernel_rfl
theorem ptr_ne_none (w : World) : (binOp .neq 109 (.pointer none) (.pointer none)).run Tryz.prog w = .ok (.bool false) w := by kernel_rfl
theorem ptr_ne_some (b : Nat) (w : World) : (binOp .neq 109 (.pointer (some ⟨b, 0, none⟩)) (.pointer none)).run Tryz.prog w = .ok (.bool true) w := by kernel_rfl
theorem set7 (w : World) (b : Nat) (T : TypeId) (v0 v1 v2 v3 v4 v5 v6 : Value) {a0 a1 a2 a3 a4 a5 a6 : Value} (h : w.heap[b]? = some (.cells #[a0, a1, a2, a3, a4, a5, a6] T (0, 0))) :
    ∃ wz, wz = (((((((w.setCell ⟨b, 0, none⟩ v0).setCell ⟨b, 1, none⟩ v1).setCell ⟨b, 2, none⟩ v2).setCell ⟨b, 3, none⟩ v3).setCell ⟨b, 4, none⟩ v4).setCell ⟨b, 5, none⟩ v5).setCell ⟨b, 6, none⟩ v6) ∧ Keep (· = b) w wz ∧ wz.heap[b]? = some (.cells #[v0, v1, v2, v3, v4, v5, v6] T (0, 0)) := by
  have kst : ∀ (u : World) (i : Nat) (v : Value), Keep (· = b) u (u.setCell ⟨b, i, none⟩ v) := fun u i v => Keep.setCell _ _ _ (fun _ => rfl)
  have kj : ∀ {u v x : World}, Keep (· = b) u v → Keep (· = b) v x → Keep (· = b) u x := fun h1 h2 => h1.trans h2 (fun _ _ h => h) (fun _ _ h => h)
  have h0 : (w.setCell ⟨b, 0, none⟩ v0).heap[b]? = some (.cells #[v0, a1, a2, a3, a4, a5, a6] T (0, 0)) := setCell_cells h 0 v0
  have h1 : ((w.setCell ⟨b, 0, none⟩ v0).setCell ⟨b, 1, none⟩ v1).heap[b]? = some (.cells #[v0, v1, a2, a3, a4, a5, a6] T (0, 0)) := setCell_cells h0 1 v1
  have h2 : (((w.setCell ⟨b, 0, none⟩ v0).setCell ⟨b, 1, none⟩ v1).setCell ⟨b, 2, none⟩ v2).heap[b]? = some (.cells #[v0, v1, v2, a3, a4, a5, a6] T (0, 0)) := setCell_cells h1 2 v2
  have h3 : ((((w.setCell ⟨b, 0, none⟩ v0).setCell ⟨b, 1, none⟩ v1).setCell ⟨b, 2, none⟩ v2).setCell ⟨b, 3, none⟩ v3).heap[b]? = some (.cells #[v0, v1, v2, v3, a4, a5, a6] T (0, 0)) := setCell_cells h2 3 v3
  have h4 : (((((w.setCell ⟨b, 0, none⟩ v0).setCell ⟨b, 1, none⟩ v1).setCell ⟨b, 2, none⟩ v2).setCell ⟨b, 3, none⟩ v3).setCell ⟨b, 4, none⟩ v4).heap[b]? = some (.cells #[v0, v1, v2, v3, v4, a5, a6] T (0, 0)) := setCell_cells h3 4 v4
  have h5 : ((((((w.setCell ⟨b, 0, none⟩ v0).setCell ⟨b, 1, none⟩ v1).setCell ⟨b, 2, none⟩ v2).setCell ⟨b, 3, none⟩ v3).setCell ⟨b, 4, none⟩ v4).setCell ⟨b, 5, none⟩ v5).heap[b]? = some (.cells #[v0, v1, v2, v3, v4, v5, a6] T (0, 0)) := setCell_cells h4 5 v5
  exact ⟨_, rfl, kj (kj (kj (kj (kj (kj (kst w 0 v0) (kst _ 1 v1)) (kst _ 2 v2)) (kst _ 3 v3)) (kst _ 4 v4)) (kst _ 5 v5)) (kst _ 6 v6), setCell_cells h5 6 v6⟩
theorem set456 (w : World) (b : Nat) (T : TypeId) (v4 v5 v6 : Value) {a0 a1 a2 a3 a4 a5 a6 : Value} (h : w.heap[b]? = some (.cells #[a0, a1, a2, a3, a4, a5, a6] T (0, 0))) :
    ∃ wz, wz = (((w.setCell ⟨b, 4, none⟩ v4).setCell ⟨b, 5, none⟩ v5).setCell ⟨b, 6, none⟩ v6) ∧ Keep (· = b) w wz ∧ wz.heap[b]? = some (.cells #[a0, a1, a2, a3, v4, v5, v6] T (0, 0)) := by
  have kst : ∀ (u : World) (i : Nat) (v : Value), Keep (· = b) u (u.setCell ⟨b, i, none⟩ v) := fun u i v => Keep.setCell _ _ _ (fun _ => rfl)
  have kj : ∀ {u v x : World}, Keep (· = b) u v → Keep (· = b) v x → Keep (· = b) u x := fun h1 h2 => h1.trans h2 (fun _ _ h => h) (fun _ _ h => h)
  have h4 : (w.setCell ⟨b, 4, none⟩ v4).heap[b]? = some (.cells #[a0, a1, a2, a3, v4, a5, a6] T (0, 0)) := setCell_cells h 4 v4
  have h5 : ((w.setCell ⟨b, 4, none⟩ v4).setCell ⟨b, 5, none⟩ v5).heap[b]? = some (.cells #[a0, a1, a2, a3, v4, v5, a6] T (0, 0)) := setCell_cells h4 5 v5
  exact ⟨_, rfl, kj (kj (kst w 4 v4) (kst _ 5 v5)) (kst _ 6 v6), setCell_cells h5 6 v6⟩
end Go.Proofs.YtedgonoeeeiilaaGreatDoor
