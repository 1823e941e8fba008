/- The walk of the function that resolves given namespaces and tells back what they are resolved to: schemas without actions and common types. -/
import Derived.Test.YthhjehajdcgkhaaGreatDoorSeq
namespace Go.Proofs.YthhjehajdcgkhaaGreatDoor
open Go.RowKit

/-- Records in a row. -/
def RowAt {α : Type} (R : World → (Nat → Prop) → α → List Value → Prop) (size : Nat) (w : World) (M : Nat → Prop) (l : List α) (s : Sl) : Prop :=
  s.2.1 = l.length ∧ (l = [] ∨ ∃ b off, s.1 = some ⟨b, off, none⟩ ∧ ¬ M b ∧ ∀ i x, l[i]? = some x → ∃ cs, cs.length = size ∧ CellsAt w b (off + i * size) cs ∧ R w M x cs)
theorem RowIs.at {α : Type} {R : World → (Nat → Prop) → α → List Value → Prop} {w : World} {base : Nat} {E : TypeId} {size : Nat} {v : Value} {l : List α} (hR : KeepsC R) (h : RowIs R w base E size v l) {M : Nat → Prop} (hM : ∀ i, M i → i < base) : ∃ s : Sl, v = slV s ∧ RowAt R size w M l s := by
  obtain ⟨ov, c, rfl, ho⟩ := h.over hR
  refine ⟨(ov, l.length, c), rfl, rfl, ?_⟩
  rcases ho with h | ⟨b, e, hb, h⟩
  · exact .inl h
  · refine .inr ⟨b, 0, e, fun h => by have := hM b h; omega, fun i x hx => ?_⟩
    obtain ⟨cs, h1, h2, h3⟩ := h i x hx
    exact ⟨cs, h1, h2, hR.k (Keep.refl NoB _) (fun _ _ h => h.elim) (fun i _ h => hM i h) h3⟩
theorem RowAt.keep {α : Type} {R : World → (Nat → Prop) → α → List Value → Prop} {size : Nat} (hR : KeepsC R) (hs : 0 < size) {w w' : World} {M M' M2 : Nat → Prop} {l : List α} {s : Sl} (h : RowAt R size w M l s) (hk : Keep M2 w w') (h2 : ∀ i, i < w.heap.size → M2 i → M i) (h3 : ∀ i, i < w.heap.size → M' i → M i) : RowAt R size w' M' l s := by
  refine ⟨h.1, ?_⟩
  rcases h.2 with h | ⟨b, off, e, hM, h⟩
  · exact .inl h
  · cases l with
    | nil => exact .inl rfl
    | cons x l =>
      have hb : b < w.heap.size := by
        obtain ⟨cs, h1, h2, _⟩ := h 0 x rfl
        exact block_lt_of_cell (h2 0 _ (List.getElem?_eq_getElem (by omega)))
      refine .inr ⟨b, off, e, fun q => hM (h3 b hb q), fun i y hy => ?_⟩
      obtain ⟨cs, h4, h5, h6⟩ := h i y hy
      exact ⟨cs, h4, h5.keep hk fun q => hM (h2 b hb q), hR.k hk h2 h3 h6⟩

/-- A declared entity type as it is told. -/
structure OEntIs (w : World) (M : Nat → Prop) (e : IEnt) (ps ats : Sl) (k : Int) (s : Str) (el al : Sl) : Prop where
  par : StrsAt w M e.parents (slV ps)
  att : ∀ s e', OTyIs w M (.record e.attrs) (tyV 6 s e' ats)
  tag : ∀ t, e.tags = some t → OTyIs w M t (tyV k s el al)
theorem OEntIs.keep {w w' : World} {M M' M2 : Nat → Prop} {e : IEnt} {ps ats : Sl} {k : Int} {s : Str} {el al : Sl} (h : OEntIs w M e ps ats k s el al) (hk : Keep M2 w w') (h2 : ∀ i, i < w.heap.size → M2 i → M i) (h3 : ∀ i, i < w.heap.size → M' i → M i) : OEntIs w' M' e ps ats k s el al :=
  ⟨StrsAt.keep.k hk h2 h3 h.par, fun s e' => (h.att s e').keep hk h2 h3, fun t ht => (h.tag t ht).keep hk h2 h3⟩
def EntC (w : World) (M : Nat → Prop) (x : Str × IEnt) (cs : List Value) : Prop :=
  ∃ ps ats k s el al, cs = [.string x.1, slV ps, slV ats, .bool x.2.tags.isSome, .int .i64 k, .string s, slV el, slV al] ∧ OEntIs w M x.2 ps ats k s el al
theorem EntC.keeps : KeepsC EntC := ⟨fun hk h2 h3 ⟨ps, ats, k, s, el, al, e, h⟩ => ⟨ps, ats, k, s, el, al, e, h.keep hk h2 h3⟩⟩
/-- A declared enumeration. -/
def EnumC (w : World) (M : Nat → Prop) (x : Str × List Str) (cs : List Value) : Prop := ∃ vl, cs = [.string x.1, slV vl] ∧ StrsAt w M x.2 (slV vl)
theorem EnumC.keeps : KeepsC EnumC := ⟨fun hk h2 h3 ⟨vl, e, h⟩ => ⟨vl, e, StrsAt.keep.k hk h2 h3 h⟩⟩

/-- A shape's attributes. -/
def ShapeL : Option RTy → List (Str × RTy × Bool) → Prop
  | none, l => l = []
  | some t, l => t = .record l
/-- What a resolved entity type means. -/
def MeantEnt (y : REnt) (e : IEnt) : Prop := e.parents = y.parents ∧ (∃ l, ShapeL y.shape l ∧ Meant (.record l) (.record e.attrs)) ∧
  (match y.tags, e.tags with
    | none, none => True
    | some t, some a => Meant t a
    | _, _ => False)
structure REntOk (y : REnt) : Prop where
  par : y.parents.length ≤ 1000000
  shape : ∀ t, y.shape = some t → ROk t
  tags : ∀ t, y.tags = some t → ROk t
theorem meantShape_c {w0 : World} {M : Nat → Prop} {sh : Option RTy} {sv : Value} (h : RShape w0 M sh sv) (hok : ∀ t, sh = some t → ROk t) :
    ∃ mb, sv = .map mb ∧ ∃ l, ShapeL sh l ∧ ∀ w, Keep NoB w0 w → Calls Tryz.prog 21 #[.map mb] w (MeantRec w l) := by
  cases sh with
  | none => exact ⟨none, h, [], rfl, fun w _ => meantAttrs_none w⟩
  | some t =>
    obtain ⟨b, rfl, hb⟩ := h
    have hok' := hok t rfl
    have hl : ∃ l, t = .record l := by cases hb; exact ⟨_, rfl⟩
    obtain ⟨l, rfl⟩ := hl
    exact ⟨some b, rfl, l, rfl, meantAttrs_of hb hok' fun t v hr hv => meantType_c hv hr⟩

/-- What is asked of the data. -/
structure ResOk (l : List ISp) (D : Str → SpD) (fuel : Nat) : Prop where
  com : ComOk (bareSp l) D (namedSp l)
  term : ∀ V, EnvIs (bareSp l) D (· ∈ namedSp l) V → Acyc V → (∀ n ∈ (bareSp l).en, ∃ x, resEnt V fuel ⟨#[]⟩ n ((bareSp l).AE n) = some x) ∧ ∀ s ∈ namedSp l, ∀ n ∈ (D s).en, ∃ x, resEnt V fuel s n ((D s).AE n) = some x
  ents : ∀ V, EnvIs (bareSp l) D (· ∈ namedSp l) V → Acyc V → ∀ x y, EntsOf V fuel (bareSp l) D (· ∈ namedSp l) x y → REntOk y
  names : ∃ ns : List Str, ns.length ≤ 1000000 ∧ (∀ n ∈ ns, n.size ≤ 3000000) ∧ ∀ V, EnvIs (bareSp l) D (· ∈ namedSp l) V → Acyc V → ∀ x y, EntsOf V fuel (bareSp l) D (· ∈ namedSp l) x y → x ∈ ns
  enums : ∃ ns : List Str, ns.length ≤ 1000000 ∧ (∀ n ∈ ns, n.size ≤ 3000000) ∧ ∀ x y, EnumsOf (bareSp l) D (· ∈ namedSp l) x y → x ∈ ns ∧ y.2.length ≤ 1000000

/-- The names of a list, in order, each once. -/
def InOrder {α : Type} (l : List (Str × α)) : Prop := (l.map (·.1)).Pairwise leS ∧ (l.map (·.1)).Nodup
def ImplPost (l : List ISp) (D : Str → SpD) (fuel : Nat) (w : World) (e : Ending) (w' : World) : Prop :=
  (e = .returned (.tuple #[.agg #[.slice none 0 0, .slice none 0 0, .slice none 0 0], .bool false, .bool false]) ∧ (Wrong (bareSp l) D (namedSp l) ∨ ∃ V, EnvIs (bareSp l) D (· ∈ namedSp l) V ∧ (¬ Acyc V ∨ Acyc V ∧ Unres (bareSp l) D (namedSp l) V fuel)) ∧ Keep NoB w w') ∨
  (¬ Wrong (bareSp l) D (namedSp l) ∧ ∃ V, EnvIs (bareSp l) D (· ∈ namedSp l) V ∧ Acyc V ∧ (∀ n ∈ (bareSp l).en, ∃ x, resEnt V fuel ⟨#[]⟩ n ((bareSp l).AE n) = some (some x)) ∧ (∀ s ∈ namedSp l, ∀ n ∈ (D s).en, ∃ x, resEnt V fuel s n ((D s).AE n) = some (some x)) ∧
    ∃ (lE : List (Str × IEnt)) (lN : List (Str × List Str)) (sE sN sA : Sl), e = .returned (.tuple #[.agg #[slV sE, slV sN, slV sA], .bool true, .bool false]) ∧
      RowAt EntC 8 w' (· < w.heap.size) lE sE ∧ RowAt EnumC 2 w' (· < w.heap.size) lN sN ∧ sA.2.1 = 0 ∧ InOrder lE ∧ InOrder lN ∧
      (∀ p ∈ lE, ∃ y, EntsOf V fuel (bareSp l) D (· ∈ namedSp l) p.1 y ∧ MeantEnt y p.2) ∧ (∀ x y, EntsOf V fuel (bareSp l) D (· ∈ namedSp l) x y → x ∈ lE.map (·.1)) ∧
      (∀ p ∈ lN, ∃ q, EnumsOf (bareSp l) D (· ∈ namedSp l) p.1 (q, p.2)) ∧ (∀ x y, EnumsOf (bareSp l) D (· ∈ namedSp l) x y → x ∈ lN.map (·.1)) ∧ Keep NoB w w')

theorem infoIEnt : (Tryz.prog.info? 35).map (fun i => (i.zero, i.size, i.bytes)) = some (some (.agg #[.string ⟨#[]⟩, .slice none 0 0, .slice none 0 0, .bool false, .int .i64 0, .string ⟨#[]⟩, .slice none 0 0, .slice none 0 0]), 8, 144) := by kernel_rfl
theorem infoIEnum : (Tryz.prog.info? 67).map (fun i => (i.zero, i.size, i.bytes)) = some (some (.agg #[.string ⟨#[]⟩, .slice none 0 0]), 2, 40) := by kernel_rfl
theorem zeroREnt (w : World) : (zeroValue 90).run Tryz.prog w = .ok (.agg #[.string ⟨#[]⟩, .map none, .slice none 0 0, .map none, .nilIface]) w := by kernel_rfl
theorem zeroREnum (w : World) : (zeroValue 102).run Tryz.prog w = .ok (.agg #[.string ⟨#[]⟩, .map none, .slice none 0 0]) w := by kernel_rfl

theorem RTyIs.apart {w : World} {M : Nat → Prop} {t : RTy} {v : Value} (h : RTyIs w M t v) {b : Nat} {cs : Array Value} {T : TypeId} {f : Nat × Nat} (hb : w.heap[b]? = some (.cells cs T f)) : RTyIs w (fun i => M i ∨ i = b) t v := by
  induction h with
  | str => exact .str
  | long => exact .long
  | bool => exact .bool
  | ext s hs => exact .ext s hs
  | set _ ih => exact .set ih
  | record hm hM hn hl ha _ ih =>
    refine .record hm (fun q => ?_) hn hl ha ih
    rcases q with q | rfl
    · exact hM q
    · obtain ⟨es, cl, he, _⟩ := hm
      rw [hb] at he; cases he
  | ent s hs => exact .ent s hs
theorem REntIs.apart {w : World} {M : Nat → Prop} {y : REnt} {v : Value} (h : REntIs w M y v) {b : Nat} {a0 a1 a2 : Value} {T : TypeId} {f : Nat × Nat} (hb : w.heap[b]? = some (.cells #[a0, a1, a2] T f)) (h0 : ∀ (i : Nat) (s : Str), (#[a0, a1, a2] : Array Value)[i]? ≠ some (Value.string s)) : REntIs w (fun i => M i ∨ i = b) y v := by
  obtain ⟨an, pv, sv, tv, e, ⟨ov, c, e1, hp⟩, hs, ht⟩ := h
  refine ⟨an, pv, sv, tv, e, ⟨ov, c, e1, ?_⟩, ?_, ?_⟩
  · rcases Nat.eq_zero_or_pos y.parents.length with h | hpos
    · exact .inl h
    · rcases hp with h | ⟨g, off, e2, hM, hc⟩
      · exact .inl h
      · refine .inr ⟨g, off, e2, fun q => ?_, hc⟩
        rcases q with q | rfl
        · exact hM q
        · have h1 := (hc 0 hpos).2 0 _ rfl
          rw [cell_cells hb] at h1
          exact h0 _ _ h1
  · cases hsh : y.shape with
    | none => rw [hsh] at hs; exact hs
    | some l => rw [hsh] at hs; obtain ⟨b', e2, h⟩ := hs; exact ⟨b', e2, h.apart hb⟩
  · cases htg : y.tags with
    | none => rw [htg] at ht; exact ht
    | some t => rw [htg] at ht; exact RTyIs.apart ht hb
theorem REnumIs.apart {w : World} {M : Nat → Prop} {y : Str × List Str} {v : Value} (h : REnumIs w M y v) {b : Nat} {a0 a1 a2 : Value} {T : TypeId} {f : Nat × Nat} (hb : w.heap[b]? = some (.cells #[a0, a1, a2] T f)) (h0 : ∀ (i : Nat) (s : Str), (#[a0, a1, a2] : Array Value)[i]? ≠ some (Value.string s)) : REnumIs w (fun i => M i ∨ i = b) y v := by
  obtain ⟨an, sv, e, ov, c, e1, hp⟩ := h
  refine ⟨an, sv, e, ov, c, e1, ?_⟩
  rcases Nat.eq_zero_or_pos y.2.length with h | hpos
  · exact .inl h
  · rcases hp with h | ⟨g, off, e2, hM, hc⟩
    · exact .inl h
    · refine .inr ⟨g, off, e2, fun q => ?_, hc⟩
      rcases q with q | rfl
      · exact hM q
      · have h1 := (hc 0 hpos).2 0 _ rfl
        rw [cell_cells hb] at h1
        exact h0 _ _ h1
theorem KMap.ne_cells {κ : Type} {enc : κ → Value} {w : World} {m b : Nat} {l : List (κ × Value)} (h : KMap enc w m l) {cs : Array Value} {T : TypeId} {f : Nat × Nat} (hb : w.heap[b]? = some (.cells cs T f)) : m ≠ b := by
  rintro rfl
  obtain ⟨es, cl, he, _⟩ := h
  rw [hb] at he; cases he

/-- What the region lays that makes a told entity type. -/
structure Told11 (wA wx : World) (kj : Str) (tb : Bool) (y : REnt) (d : Nat) (ps : Sl) (lA : List (Str × ATy × Bool)) (ao : Option Addr) (ac : Nat) : Prop where
  le : wA.heap.size ≤ d
  keep : Keep NoB wA wx
  row : wx.heap[d]? = some (.cells #[.string kj, .slice ps.1 ps.2.1 ps.2.2, .slice ao lA.length ac, .bool tb, .int .i64 0, .string ⟨#[]⟩, .slice none 0 0, .slice none 0 0] 35 (0, 0))
  par : StrsAt wx (fun i => i < wA.heap.size ∨ i = d) y.parents (slV ps)
  att : ∀ s e, OTyIs wx (fun i => i < wA.heap.size ∨ i = d) (.record lA) (tyV 6 s e (ao, lA.length, ac))
  mean : ∃ l', ShapeL y.shape l' ∧ Meant (.record l') (.record lA)
theorem told_late {wA w5 : World} {kj : Str} {tb : Bool} {y : REnt} {ps : Sl} {lA : List (Str × ATy × Bool)} {ao : Option Addr} {ac : Nat} (k : Keep NoB wA w5) (hp : StrsAt w5 (· < wA.heap.size) y.parents (slV ps)) (ha : ∀ s e, OTyIs w5 (· < wA.heap.size) (.record lA) (tyV 6 s e (ao, lA.length, ac))) (hm : ∃ l', ShapeL y.shape l' ∧ Meant (.record l') (.record lA)) :
    Told11 wA (w5.alloc (.cells #[.string kj, .slice ps.1 ps.2.1 ps.2.2, .slice ao lA.length ac, .bool tb, .int .i64 0, .string ⟨#[]⟩, .slice none 0 0, .slice none 0 0] 35)) kj tb y w5.heap.size ps lA ao ac :=
  ⟨k.size, k.then (Keep.alloc _ _ _), (MapKept.heap_alloc _ _).1, StrsAt.keep.k (Keep.alloc _ _ NoB) (fun _ _ h => h.elim) (fun i hi h => h.elim id fun e => by omega) hp, fun s e => (ha s e).keep (Keep.alloc _ _ NoB) (fun _ _ h => h.elim) (fun i hi h => h.elim id fun e => by omega), hm⟩
theorem told_early {wA w5 : World} {kj : Str} {tb : Bool} {y : REnt} {d : Nat} {ps : Sl} {lA : List (Str × ATy × Bool)} {ao : Option Addr} {ac : Nat} {a0 a1 a2 a3 a4 a5 a6 a7 : Value} (hd : w5.heap[d]? = some (.cells #[a0, a1, a2, a3, a4, a5, a6, a7] 35 (0, 0))) (hle : wA.heap.size ≤ d) (k : Keep NoB wA w5) (hp : StrsAt w5 (fun i => i < wA.heap.size ∨ i = d) y.parents (slV ps)) (ha : ∀ s e, OTyIs w5 (fun i => i < wA.heap.size ∨ i = d) (.record lA) (tyV 6 s e (ao, lA.length, ac))) (hm : ∃ l', ShapeL y.shape l' ∧ Meant (.record l') (.record lA)) :
    Told11 wA ((((((((w5.setCell ⟨d, 0, none⟩ (.string kj)).setCell ⟨d, 1, none⟩ (.slice ps.1 ps.2.1 ps.2.2)).setCell ⟨d, 2, none⟩ (.slice ao lA.length ac)).setCell ⟨d, 3, none⟩ (.bool tb)).setCell ⟨d, 4, none⟩ (.int .i64 0)).setCell ⟨d, 5, none⟩ (.string ⟨#[]⟩)).setCell ⟨d, 6, none⟩ (.slice none 0 0)).setCell ⟨d, 7, none⟩ (.slice none 0 0)) kj tb y d ps lA ao ac := by
  obtain ⟨wz, hwz, ks, hz⟩ := set8 w5 d 35 (.string kj) (.slice ps.1 ps.2.1 ps.2.2) (.slice ao lA.length ac) (.bool tb) (.int .i64 0) (.string ⟨#[]⟩) (.slice none 0 0) (.slice none 0 0) hd
  rw [← hwz]
  exact ⟨hle, k.trans ks (fun _ _ h => h) (fun i hi h => by omega), hz, StrsAt.keep.k ks (fun _ _ h => .inr h) (fun _ _ h => h) hp, fun s e => (ha s e).keep ks (fun _ _ h => .inr h) (fun _ _ h => h), hm⟩

theorem set47 (w : World) (b : Nat) (T : TypeId) (v4 v5 v6 v7 : Value) {a0 a1 a2 a3 a4 a5 a6 a7 : Value} (h : w.heap[b]? = some (.cells #[a0, a1, a2, a3, a4, a5, a6, a7] T (0, 0))) :
    ∃ wz, wz = ((((w.setCell ⟨b, 4, none⟩ v4).setCell ⟨b, 5, none⟩ v5).setCell ⟨b, 6, none⟩ v6).setCell ⟨b, 7, none⟩ v7) ∧ Keep (· = b) w wz ∧ wz.heap[b]? = some (.cells #[a0, a1, a2, a3, v4, v5, v6, v7] T (0, 0)) := by
  have kst : ∀ (u : World) (i : Nat) (v : Value), Keep (· = b) u (u.setCell ⟨b, i, none⟩ v) := fun u i v => Keep.setCell _ _ _ (fun _ => rfl)
  have kj : ∀ {u v x : World}, Keep (· = b) u v → Keep (· = b) v x → Keep (· = b) u x := fun h1 h2 => h1.trans h2 (fun _ _ h => h) (fun _ _ h => h)
  have h4 : (w.setCell ⟨b, 4, none⟩ v4).heap[b]? = some (.cells #[a0, a1, a2, a3, v4, a5, a6, a7] T (0, 0)) := setCell_cells h 4 v4
  have h5 : ((w.setCell ⟨b, 4, none⟩ v4).setCell ⟨b, 5, none⟩ v5).heap[b]? = some (.cells #[a0, a1, a2, a3, v4, v5, a6, a7] T (0, 0)) := setCell_cells h4 5 v5
  have h6 : (((w.setCell ⟨b, 4, none⟩ v4).setCell ⟨b, 5, none⟩ v5).setCell ⟨b, 6, none⟩ v6).heap[b]? = some (.cells #[a0, a1, a2, a3, v4, v5, v6, a7] T (0, 0)) := setCell_cells h5 6 v6
  have h7 : ((((w.setCell ⟨b, 4, none⟩ v4).setCell ⟨b, 5, none⟩ v5).setCell ⟨b, 6, none⟩ v6).setCell ⟨b, 7, none⟩ v7).heap[b]? = some (.cells #[a0, a1, a2, a3, v4, v5, v6, v7] T (0, 0)) := setCell_cells h6 7 v7
  exact ⟨_, rfl, kj (kj (kj (kst w 4 v4) (kst _ 5 v5)) (kst _ 6 v6)) (kst _ 7 v7), h7⟩
/-- What stands there behind the tags. -/
structure Told12 (wA wx : World) (kj : Str) (y : REnt) (d : Nat) (e : IEnt) (ps ats : Sl) (k : Int) (s : Str) (el al : Sl) : Prop where
  keep : Keep NoB wA wx
  row : wx.heap[d]? = some (.cells #[.string kj, .slice ps.1 ps.2.1 ps.2.2, .slice ats.1 ats.2.1 ats.2.2, .bool e.tags.isSome, .int .i64 k, .string s, .slice el.1 el.2.1 el.2.2, .slice al.1 al.2.1 al.2.2] 35 (0, 0))
  ent : OEntIs wx (fun i => i < wA.heap.size ∨ i = d) e ps ats k s el al
  mean : MeantEnt y e

/-- The first loop: the first j entity types have been told. -/
structure EntL (w2 w3 wr : World) (a : Nat) (RE : List (Str × REnt)) (ks : List Str) (j : Nat) (lE : List (Str × IEnt)) (sl : Value) : Prop where
  keep : Keep (· = a) w3 wr
  res : wr.heap[a]? = some (.cells #[sl, .slice none 0 0, .slice none 0 0] 40 (0, 0))
  row : RowIs EntC wr w3.heap.size 35 8 sl lE
  keys : lE.map (·.1) = ks.take j
  done : ∀ p ∈ lE, ∃ y, kget RE p.1 = some y ∧ MeantEnt y p.2

/-- The second loop: the first j enumerations have been told. -/
structure EnumL (w5 wr : World) (a : Nat) (sE : Value) (RN : List (Str × (Str × List Str))) (ks : List Str) (j : Nat) (lN : List (Str × List Str)) (sl : Value) : Prop where
  keep : Keep (· = a) w5 wr
  res : wr.heap[a]? = some (.cells #[sE, sl, .slice none 0 0] 40 (0, 0))
  row : RowIs EnumC wr w5.heap.size 67 2 sl lN
  keys : lN.map (·.1) = ks.take j
  done : ∀ p ∈ lN, ∃ y, kget RN p.1 = some y ∧ p.2 = y.2
theorem renum_f2 (a b c : Value) (w : World) : (Instr.field 102 (.agg #[a, b, c]) 2).run Tryz.prog w = .ok c w := by kernel_rfl

set_option maxRecDepth 100000 in
set_option maxHeartbeats 16000000 in
theorem implResolve_c (w0 : World) (M : Nat → Prop) (l : List ISp) (D : Str → SpD) (so : Option Addr) (c : Nat) (h : IAll w0 M l D so) (fuel : Nat) (ok : ResOk l D fuel) (w : World) (k0 : Keep NoB w0 w) :
    Calls Tryz.prog 10 #[.slice so l.length c] w (ImplPost l D fuel w) := by
  have HO := Lib.hid (schemaOf_c w0 M l D so c h _ (k0.then (Keep.alloc w (.cells #[.slice none 0 0, .slice none 0 0, .slice none 0 0] 40) NoB)))
  have hbR := (MapKept.heap_alloc w (.cells #[.slice none 0 0, .slice none 0 0, .slice none 0 0] 40)).1
  obtain ⟨iU, hiU, hzU, hsU, hbU⟩ := info_parts infoIEnt
  have HU := Lib.hid (And.intro hiU (And.intro hzU (And.intro hsU hbU)))
  obtain ⟨iN, hiN, hzN, hsN, hbN⟩ := info_parts infoIEnum
  have HUN := Lib.hid (And.intro hiN (And.intro hzN (And.intro hsN hbN)))
  obtain ⟨iS, hiS, hzS, hsS, hbS⟩ := info_parts infoStr9
  have HUS := Lib.hid (And.intro hiS (And.intro hzS (And.intro hsS hbS)))
  clear hiU hzU hsU hbU hiN hzN hsN hbN hiS hzS hsS hbS
  have HA := Lib.hid (And.intro ok hbR)
  clear h k0 ok hbR
  obtain ⟨n, hn⟩ : ∃ n, n = l.length := ⟨_, rfl⟩
  rw [← hn] at HO ⊢
  clear hn
  go_enter Tryz.func10, Tryz.ntmps10
  go_wp2_with fail
  refine HO.out.mono ?_
  rintro e w1 ⟨b, b0, me, mn, ma, mc, ms, le, ln, lc, ls, rfl, hcb, hS, hkeys, k1⟩
  have hterm := HA.out.1.term
  have hR := schResolve_c w1 b b0 hcb me mn ma mc ms le ln lc ls (bareSp l) D hS fuel (by rw [hkeys]; exact HA.out.1.com) (by rw [hkeys]; exact hterm)
  rw [hkeys] at hR
  have HR := Lib.hid hR
  have HB := Lib.hid (And.intro (k1.heap HA.out.2 (NoB.not _)) ((Keep.alloc w (.cells #[.slice none 0 0, .slice none 0 0, .slice none 0 0] 40) NoB).then k1))
  clear hcb hS hkeys k1 hterm hR
  go_wp2_with fail
  refine HR.out.mono ?_
  rintro e w2 ⟨hout, k2⟩
  have hsz2 : w.heap.size < w2.heap.size := by
    have h1 := (Array.getElem?_eq_some_iff.1 HB.out.1).1
    have h2 := k2.size
    omega
  rcases hout with ⟨⟨a, rfl⟩, hbad⟩ | ⟨hgood, V, hV, hac, hr1, hr2, c', oE, oN, oA, RE, RN, rfl, hRO, hmE, hmN⟩
  · have hb2 := k2.heap HB.out.1 (NoB.not _)
    have z0 := frozen_cells hb2 0
    have z1 := frozen_cells hb2 1
    have z2 := frozen_cells hb2 2
    have c0 : w2.cell? ⟨w.heap.size, 0, none⟩ = some (.slice none 0 0) := by rw [cell_cells hb2]; rfl
    have c1 : w2.cell? ⟨w.heap.size, 1, none⟩ = some (.slice none 0 0) := by rw [cell_cells hb2]; rfl
    have c2 : w2.cell? ⟨w.heap.size, 2, none⟩ = some (.slice none 0 0) := by rw [cell_cells hb2]; rfl
    have HX := Lib.hid (And.intro hbad (And.intro k2 hb2))
    clear hbad k2 hb2 hsz2
    go_wp2_with fail
    obtain ⟨hbad, k2, hb2⟩ := HX.out
    obtain ⟨wz, hwz, ks, hz, q0, q1, q2⟩ := set3 _ _ _ (.slice none 0 0) (.slice none 0 0) (.slice none 0 0) hb2
    rw [← hwz]
    refine bodyPost_ret (v := .tuple #[.agg #[.slice none 0 0, .slice none 0 0, .slice none 0 0], .bool false, .bool false]) ?_ rfl (.inl ⟨rfl, hbad, (HB.out.2.then k2).trans ks (fun _ _ h => h) (fun i hi h => by omega)⟩)
    simp [results, Tryz.results10, go_sem, q0, q1, q2, Result.andThen]
  · have hb2 := k2.heap HB.out.1 (NoB.not _)
    obtain ⟨lvE, hkE, hmrE⟩ := hRO.ents
    obtain ⟨lvN, hkN, hmrN⟩ := hRO.enums
    have hacts := hRO.acts
    have g1 := hRO.c1
    have g2 := hRO.c2
    have g3 := hRO.c3
    obtain ⟨nsE, hnE1, hnE2, hnE3⟩ := HA.out.1.names
    obtain ⟨nsN, hnN1, hnN2, hnN3⟩ := HA.out.1.enums
    have hno : ∀ (i : Nat) (s : Str), (#[Value.slice none 0 0, Value.slice none 0 0, Value.slice none 0 0] : Array Value)[i]? ≠ some (Value.string s) := by
      intro i s h
      match i with
      | 0 => simp at h
      | 1 => simp at h
      | 2 => simp at h
      | i + 3 => simp at h
    have hmrE' := hmrE.mono (R' := REntIs w2 (fun i => NoB i ∨ i = w.heap.size)) fun _ _ _ _ q => q.apart hb2 hno
    have hmrN' := hmrN.mono (R' := REnumIs w2 (fun i => NoB i ∨ i = w.heap.size)) fun _ _ _ _ q => q.apart hb2 hno
    have hneE := hkE.ne_cells hb2
    have hneN := hkN.ne_cells hb2
    have hneA := hacts.ne_cells hb2
    have hneC : c' ≠ w.heap.size := by
      rintro rfl
      rw [cell_cells hb2] at g1
      simp at g1
    have hEin : ∀ p ∈ RE, p.1 ∈ nsE := fun p hp => hnE3 V hV hac p.1 p.2 (hmE.back _ _ (kget_mem hmrE.nodup hp))
    have hNin : ∀ p ∈ RN, p.1 ∈ nsN := fun p hp => (hnN3 p.1 p.2 (hmN.back _ _ (kget_mem hmrN.nodup hp))).1
    have hEL : RE.length ≤ 1000000 := by
      have := length_le_of_subset hmrE.nodup (b := nsE) (fun x hx => by obtain ⟨p, hp, rfl⟩ := List.mem_map.1 hx; exact hEin p hp)
      rw [List.length_map] at this; omega
    have hNL : RN.length ≤ 1000000 := by
      have := length_le_of_subset hmrN.nodup (b := nsN) (fun x hx => by obtain ⟨p, hp, rfl⟩ := List.mem_map.1 hx; exact hNin p hp)
      rw [List.length_map] at this; omega
    have hkeysE := keysEnt_c w2 (some oE)
    have hsortE := sortedEnt_c w2 (some oE) lvE hkE (by rw [hmrE.len]; omega) (fun p hp => by
      obtain ⟨x, hx, _⟩ := (hmrE.back hkE.nodup).1 p.1 p.2 hp
      exact hnE2 _ (hEin _ hx))
    have HI := Lib.hid (And.intro hmrE' (And.intro hmrN' (And.intro hneE (And.intro hneN (And.intro hneA hneC)))))
    clear hmrE' hmrN' hneE hneN hneA hneC hno
    have HE := Lib.hid (And.intro hkE (And.intro hmrE (And.intro hEL (And.intro hkeysE (And.intro hsortE hmE)))))
    have HN := Lib.hid (And.intro hkN (And.intro hmrN (And.intro hNL (And.intro hmN (And.intro hNin hnN2)))))
    have HAC := Lib.hid hac
    have HG := Lib.hid (And.intro hgood (And.intro hV (And.intro hr1 (And.intro hr2 (And.intro hnN3 hacts)))))
    have HP := Lib.hid (And.intro k2 (And.intro hb2 (And.intro g2 g3)))
    clear hgood hV hac hr1 hr2 hRO hmE hmN k2 hb2 hkE hmrE hkN hmrN hnE1 hnE2 hnE3 hnN1 hnN2 hnN3 hEin hNin hEL hNL hkeysE hsortE g2 g3 hacts
    go_wp2_with fail
    refine HE.out.2.2.2.1.mono ?_
    rintro e wk ⟨rfl, hwk⟩
    subst hwk
    go_wp2_with fail
    refine HE.out.2.2.2.2.1.mono ?_
    rintro e w3 ⟨ks, o, cc, rfl, hp, hpw, hat, k3⟩
    have G1 := Lib.hid g1
    clear g1
    obtain ⟨m, hkn⟩ : ∃ m, m = ks.length := ⟨_, rfl⟩
    rw [← hkn]
    have hmL : m ≤ 1000000 := by
      have h1 := (hp.trans (HE.out.2.1.back HE.out.1.nodup).2).length_eq
      have h2 := HE.out.2.2.1
      rw [List.length_map] at h1; omega
    have HC := Lib.hid (And.intro hkn (And.intro hp (And.intro hpw (And.intro hat k3))))
    clear hkn hp hpw hat k3
    go_wp2_with fail
    go_loopg [47] m (fun g i wr => ∃ (j : Nat) (lE : List (Str × IEnt)) (sl : Value), j + g = m ∧ i = .int .i64 j ∧ EntL w2 w3 wr w.heap.size RE ks j lE sl)
    case atStart => exact ⟨0, [], _, by omega, rfl, Keep.refl _ _, HC.out.2.2.2.2.heap HP.out.2.1 (NoB.not _), RowIs.nil _ _ _ _ _, rfl, fun _ h => by simp at h⟩
    case round =>
      obtain ⟨j, lE, sl, hj, rfl, hl⟩ := hrel
      have hlen : lE.length = j := by
        have h1 := congrArg List.length hl.keys
        have h2 := HC.out.1
        rw [List.length_map, List.length_take] at h1; omega
      have HL := Lib.hid (And.intro hl hlen)
      clear hl hlen
      by_cases hlt : j < m
      · obtain ⟨hkn, hp, hpw, hat, k3⟩ := HC.out
        obtain ⟨kj, hkj⟩ : ∃ kj, ks[j]? = some kj := ⟨_, List.getElem?_eq_getElem (by omega)⟩
        obtain ⟨v, hv⟩ : ∃ v, (kj, v) ∈ lvE := by
          have h1 : kj ∈ lvE.map (·.1) := hp.mem_iff.1 (List.mem_of_getElem? hkj)
          obtain ⟨⟨k, v⟩, h2, rfl⟩ := List.mem_map.1 h1
          exact ⟨v, h2⟩
        obtain ⟨y, hy, hyv⟩ := (HI.out.1.back HE.out.1.nodup).1 kj v hv
        have hyok : REntOk y := HA.out.1.ents V HG.out.2.1 HAC.out kj y (HE.out.2.2.2.2.2.back _ _ (kget_mem HE.out.2.1.nodup hy))
        obtain ⟨an, pv, sv, tv, rfl, hpar, hsh, htg⟩ := hyv
        have kr : Keep (· = w.heap.size) w2 wr := k3.first HL.out.1.keep
        have hcell : wr.cell? ⟨c', 1, none⟩ = some (.map (some oE)) := kr.cell G1.out HI.out.2.2.2.2.2
        have hm := HE.out.1.keep kr HI.out.2.2.1
        have hparR := StrsAt.keep.k (M' := (· = w.heap.size)) kr (fun _ _ h => .inr h) (fun _ _ h => .inr h) hpar
        have hshR := RShape.keep.k (M' := (· = w.heap.size)) kr (fun _ _ h => .inr h) (fun _ _ h => .inr h) hsh
        have htgR := RTags.keep.k (M' := (· = w.heap.size)) kr (fun _ _ h => .inr h) (fun _ _ h => .inr h) htg
        obtain ⟨po, pc, rfl, hpc⟩ := hparR
        have hparR : StrsAt wr (· = w.heap.size) y.parents (.slice po y.parents.length pc) := ⟨po, pc, rfl, hpc⟩
        clear hpc hpar hsh htg
        obtain ⟨pl, hpl⟩ : ∃ pl, pl = y.parents.length := ⟨_, rfl⟩
        rw [← hpl] at hparR hv
        obtain ⟨mb, rfl⟩ : ∃ mb, sv = .map mb := by
          cases hq : y.shape with
          | none => rw [hq] at hshR; exact ⟨_, hshR⟩
          | some t => rw [hq] at hshR; obtain ⟨b, e, _⟩ := hshR; exact ⟨_, e⟩
        have hlk : (Instr.lookup 82 (.map (some oE)) (.string kj) false).run Tryz.prog wr = .ok (.agg #[.string y.name, .map an, .slice po pl pc, .map mb, tv]) wr := by
          rw [KMap.lookup hm (strKey Tryz.underlying78) Tryz.underlying82 (zeroREnt wr) kj false, kget_mem HE.out.1.nodup hv]; rfl
        have htv : (tv = .nilIface ∧ y.tags = none) ∨ ∃ T x t, tv = .iface T x ∧ y.tags = some t := by
          cases hq : y.tags with
          | none => rw [hq] at htgR; exact .inl ⟨htgR, rfl⟩
          | some t => rw [hq] at htgR; obtain ⟨T, x, e⟩ := RTyIs.iface htgR; exact .inr ⟨T, x, t, e, rfl⟩
        have hone : tv.oneCell' = true := by rcases htv with ⟨rfl, _⟩ | ⟨T, x, t, rfl, _⟩ <;> rfl
        obtain ⟨ov', cc2, he, hcells⟩ := hat
        simp only [Value.slice.injEq] at he
        obtain ⟨rfl, hx, rfl⟩ := he
        clear hx
        rcases hcells with h0 | ⟨bv, offv, rfl, hMv, hcl⟩
        · omega
        have hcv := HL.out.1.keep.cell ((hcl j (by omega)).2 0 _ rfl) (by show ¬ (bv = _); omega)
        simp only [Nat.mul_one, Nat.add_zero] at hcv
        have hkj' : ks.getD j ⟨#[]⟩ = kj := by rw [List.getD_eq_getElem?_getD, hkj]; rfl
        rw [hkj'] at hcv
        obtain ⟨wA, hwA⟩ : ∃ wA, wA = wr.alloc (.cells #[.string y.name, .map an, .slice po pl pc, .map mb, tv] 90) := ⟨_, rfl⟩
        have kA : Keep NoB wr wA := hwA ▸ Keep.alloc _ _ _
        have hbA : wA.heap[wr.heap.size]? = some (.cells #[.string y.name, .map an, .slice po pl pc, .map mb, tv] 90 (0, 0)) := hwA ▸ (MapKept.heap_alloc wr _).1
        have hsA : wA.heap.size = wr.heap.size + 1 := by rw [hwA, World.size_alloc]
        have HQ := Lib.hid (And.intro hparR (And.intro hshR (And.intro htgR (And.intro hpl (And.intro htv (And.intro hyok (And.intro hy (And.intro hkj (And.intro kr hwA)))))))))
        have HW := Lib.hid (And.intro kA (And.intro hbA hsA))
        have HO1 := Lib.hid hone
        clear hkn hp hpw k3 hkj hv hy hyok kr hm hparR hshR htgR hpl htv hMv hcl hkj' hwA kA hbA hsA
        obtain ⟨wo, rfl⟩ : ∃ wo : World, wo = wr := ⟨_, rfl⟩
        have hst := fun w a m => run_store Tryz.prog w a tv m hone
        go_upto_region 11 with fail
        clear hst
        have hwA' := HQ.out.2.2.2.2.2.2.2.2.2
        rw [← hwA']
        clear hwA' hlk hcell hcv hone
        obtain ⟨hparR, hshR, htgR, hpl, htv, hyok, hy, hkj, kr, hwA⟩ := HQ.out
        obtain ⟨kA, hbA, hsA⟩ := HW.out
        have q2 : wA.drew.cell? ⟨wo.heap.size, 2, none⟩ = some (.slice po pl pc) := by rw [World.cell?_drew, cell_cells hbA]; rfl
        have q3 : wA.drew.cell? ⟨wo.heap.size, 3, none⟩ = some (.map mb) := by rw [World.cell?_drew, cell_cells hbA]; rfl
        have q4 : wA.drew.cell? ⟨wo.heap.size, 4, none⟩ = some tv := by rw [World.cell?_drew, cell_cells hbA]; rfl
        have HNm := Lib.hid (show ∀ x, Keep NoB wA x → Calls Tryz.prog 20 #[.slice po pl pc] x (fun e w' => ∃ o n c', e = .returned (.slice o n c') ∧ StrsAt w' (· < x.heap.size) y.parents (.slice o n c') ∧ Keep NoB x w') from fun x kx => by
          have h1 := StrsAt.keep.k (M' := (· = w.heap.size)) (kA.then kx) (fun _ _ h => h.elim) (fun _ _ h => h) hparR
          rw [hpl] at h1 ⊢
          exact meantNames_c x _ _ _ _ hyok.par h1)
        obtain ⟨mb', hmb, l', hl', hAt⟩ := meantShape_c (RShape.keep.k (M' := (· = w.heap.size)) kA (fun _ _ h => h.elim) (fun _ _ h => h) hshR) hyok.shape
        cases hmb
        have HAt := Lib.hid (And.intro hAt hl')
        have HQ4 := Lib.hid (show ∀ x, Keep NoB wA x → x.cell? ⟨wo.heap.size, 2, none⟩ = some (.slice po pl pc) ∧ x.cell? ⟨wo.heap.size, 3, none⟩ = some (.map mb) ∧ x.cell? ⟨wo.heap.size, 4, none⟩ = some tv from fun x kx => by
          have hbx := kx.heap hbA (NoB.not _)
          exact ⟨by rw [cell_cells hbx]; rfl, by rw [cell_cells hbx]; rfl, by rw [cell_cells hbx]; rfl⟩)
        clear hAt hl' hparR hshR htgR hpl hyok hy hkj kr hwA kA hbA hsA
        obtain ⟨tb, htb⟩ : ∃ tb, tb = y.tags.isSome := ⟨_, rfl⟩
        have hgd : ∀ x, (eqGuard .neq 88 (.tmp 65) (.const .nilIface) tv .nilIface).run Tryz.prog x = .ok () x := fun x => by
          rcases htv with ⟨rfl, _⟩ | ⟨T, z, t, rfl, _⟩ <;> go_simp
        have hnq : ∀ x, (binOp .neq 88 tv .nilIface).run Tryz.prog x = .ok (.bool tb) x := fun x => by
          rcases htv with ⟨rfl, e⟩ | ⟨T, z, t, rfl, e⟩
          · rw [htb, e]; go_simp
          · rw [htb, e]; go_simp
        have HT := Lib.hid (And.intro htv htb)
        clear htv htb
        go_cut [12, 47] from 47 to 80 (fun s12 s47 wx => s47 = .int .i64 j ∧ ∃ (d : Nat) (ps : Sl) (lA : List (Str × ATy × Bool)) (ao : Option Addr) (ac : Nat), s12 = .pointer (some ⟨d, 0, none⟩) ∧ Told11 wA wx kj tb y d ps lA ao ac)
        case first =>
          have hKA : Keep NoB wA wA.drew := Keep.drew _ _
          go_region_held3 (fun x => Keep NoB wA x ∧ x.cell? ⟨wo.heap.size, 2, none⟩ = some (.slice po pl pc) ∧ x.cell? ⟨wo.heap.size, 3, none⟩ = some (.map mb) ∧ x.cell? ⟨wo.heap.size, 4, none⟩ = some tv)
            (with_reducible (first
              | (refine (fun hh => ⟨hh, HQ4.out _ hh⟩) ?_; (repeat (refine keepLate ?_ (by first | exact Nat.le_refl _ | exact kw4.size))); exact kw5)
              | exact ⟨(kw5.then (Keep.alloc _ _ _)), HQ4.out _ (kw5.then (Keep.alloc _ _ _))⟩
              | exact ⟨(kw4.then (Keep.alloc _ _ _)), HQ4.out _ (kw4.then (Keep.alloc _ _ _))⟩
              | exact ⟨(hKA.then (Keep.alloc _ _ _)), HQ4.out _ (hKA.then (Keep.alloc _ _ _))⟩
              | exact ⟨kw4, HQ4.out _ kw4⟩
              | exact ⟨hKA, q2, q3, q4⟩
              | assumption))
            ((first
              | (go_at_call 20
                 refine (HNm.out _ (by go_split_ands; assumption)).mono ?_
                 rintro e w4 ⟨no, nn, nc, rfl, hns, k4⟩
                 have kw4 : Keep NoB wA w4 := Keep.then (by go_split_ands; assumption) k4
                 (first | (with_reducible have hd := heap_alloc1 k4) | (with_reducible have hd := heap_alloc2 k4) | (with_reducible have hd := heap_again k4 hd) | skip)
                 (first | (have hcd := cells8 hd; obtain ⟨e0, e1, e2, e3, e4, e5, e6, e7, z0, z1, z2, z3, z4, z5, z6, z7⟩ := hcd) | skip))
              | (go_at_call 21
                 refine (HAt.out.1 _ (by go_split_ands; assumption)).mono ?_
                 rintro e w5 ⟨lA, ao, ac, hmt, rfl, hat5, k5⟩
                 have kw5 : Keep NoB wA w5 := Keep.then (by go_split_ands; assumption) k5
                 (first | (with_reducible have hd := heap_alloc1 k5) | (with_reducible have hd := heap_alloc2 k5) | (with_reducible have hd := heap_again k5 hd) | skip)
                 (first | (have hcd := cells8 hd; obtain ⟨e0, e1, e2, e3, e4, e5, e6, e7, z0, z1, z2, z3, z4, z5, z6, z7⟩ := hcd) | skip))))
          · have HZ := Lib.hid (And.intro hns (And.intro k4 (And.intro hmt (And.intro hat5 (And.intro k5 (And.intro kw5 trivial))))))
            clear q2 q3 q4 hKA hns k4 hmt hat5 k5 kw5 kw4
            go_wp2_with fail
            go_meet
            case rel =>
              obtain ⟨hns, k4, hmt, hat5, k5, kw5, hx⟩ := HZ.out
              have s4 := k4.size
              have s5 := k5.size
              (try simp at s4); (try simp at s5)
              refine ⟨rfl, _, (no, nn, nc), lA, ao, ac, rfl, told_late (y := y) (ps := (no, nn, nc)) kw5 (StrsAt.keep.k k5 (fun _ _ h => h.elim) (fun _ _ h => h) hns) (fun s e => (hat5 s e).keep (Keep.refl NoB _) (fun _ _ h => h.elim) (fun i hi h => ?_)) ⟨_, HAt.out.2, hmt⟩⟩
              exact Nat.lt_of_lt_of_le h s4
          · have HZ := Lib.hid (And.intro hns (And.intro k4 (And.intro hmt (And.intro hat5 (And.intro k5 (And.intro kw5 (And.intro hd kw4)))))))
            clear q2 q3 q4 hKA hns k4 hmt hat5 k5 kw5 kw4 hd e0 e1 e2 e3 e4 e5 e6 e7 z0 z1 z2 z3 z4 z5 z6 z7
            go_wp2_with fail
            go_meet
            case rel =>
              obtain ⟨hns, k4, hmt, hat5, k5, kw5, hx⟩ := HZ.out
              have s4 := k4.size
              have s5 := k5.size
              (try simp at s4); (try simp at s5)
              have s6 := hx.2.size
              refine ⟨rfl, _, (no, nn, nc), lA, ao, ac, rfl, told_early (y := y) (ps := (no, nn, nc)) hx.1 s6 kw5 (StrsAt.keep.k ((Keep.alloc _ _ NoB).then k5) (fun _ _ h => h.elim) (fun i hi h => ?_) hns) (fun s e => (hat5 s e).keep (Keep.refl NoB _) (fun _ _ h => h.elim) (fun i hi h => ?_)) ⟨_, HAt.out.2, hmt⟩⟩
              · rcases h with h | h
                · exact h
                · omega
              · show i < _
                rw [World.size_alloc]
                rcases h with h | h <;> omega
          · have HZ := Lib.hid (And.intro hns (And.intro k4 (And.intro hmt (And.intro hat5 (And.intro k5 (And.intro kw5 hd))))))
            clear q2 q3 q4 hKA hns k4 hmt hat5 k5 kw5 kw4 hd e0 e1 e2 e3 e4 e5 e6 e7 z0 z1 z2 z3 z4 z5 z6 z7
            go_wp2_with fail
            go_meet
            case rel =>
              obtain ⟨hns, k4, hmt, hat5, k5, kw5, hx⟩ := HZ.out
              have s4 := k4.size
              have s5 := k5.size
              (try simp at s4); (try simp at s5)
              refine ⟨rfl, _, (no, nn, nc), lA, ao, ac, rfl, told_early (y := y) (ps := (no, nn, nc)) hx (Nat.le_refl _) kw5 (StrsAt.keep.k k5 (fun _ _ h => h.elim) (fun i hi h => ?_) hns) (fun s e => (hat5 s e).keep (Keep.refl NoB _) (fun _ _ h => h.elim) (fun i hi h => ?_)) ⟨_, HAt.out.2, hmt⟩⟩
              · show i < _
                simp
                rcases h with h | h <;> omega
              · show i < _
                rcases h with h | h <;> omega
        case rest =>
          obtain ⟨rfl, d, ps, lA, ao, ac, rfl, hT⟩ := hcut
          have f3 : wc.cell? ⟨d, 3, none⟩ = some (.bool tb) := by rw [cell_cells hT.row]; rfl
          have HD := Lib.hid hT
          clear hT hgd hnq q2 q3 q4
          go_upto_if 69 with fail
          go_cut [47] from 47 to 80 (fun s47 wx => s47 = .int .i64 j ∧ ∃ (e : IEnt) (ats : Sl) (k : Int) (s : Str) (el al : Sl), Told12 wA wx kj y d e ps ats k s el al)
          case first =>
            clear f3
            rcases HT.out.1 with ⟨hn1, hn2⟩ | ⟨T, x, t, hn1, hn2⟩
            · have htb : tb = false := by rw [HT.out.2, hn2]; rfl
              subst htb
              clear hn1
              have HN2 := Lib.hid hn2
              clear hn2
              go_wp2_with fail
              go_meet
              case rel =>
                have hT := HD.out
                exact ⟨rfl, ⟨y.parents, lA, none⟩, (ao, lA.length, ac), 0, ⟨#[]⟩, (none, 0, 0), (none, 0, 0), hT.keep, hT.row, ⟨hT.par, hT.att, fun t h => by cases h⟩, rfl, hT.mean, by rw [HN2.out]; trivial⟩
            · have htb : tb = true := by rw [HT.out.2, hn2]; rfl
              subst htb
              subst hn1
              have hT := HD.out
              have htg := HQ.out.2.2.1
              rw [hn2] at htg
              have HM := Lib.hid (meantType_c htg (HQ.out.2.2.2.2.2.1.tags t hn2) wc (HW.out.1.then hT.keep))
              have g4 := (HQ4.out wc hT.keep).2.2
              have HN2 := Lib.hid hn2
              clear hn2 hT htg
              go_wp2_with fail
              refine HM.out.mono ?_
              rintro e w6 ⟨a, k, s, el, al, hmt, rfl, hty, k6⟩
              have hb6 := k6.heap HD.out.row (NoB.not _)
              obtain ⟨_, _, _, _, e4, e5, e6, e7, _, _, _, _, z4, z5, z6, z7⟩ := cells8 hb6
              have HZ := Lib.hid (And.intro hmt (And.intro hty (And.intro k6 hb6)))
              clear hmt hty k6 hb6 g4
              go_wp2_with fail
              go_meet
              case rel =>
                obtain ⟨hmt, hty, k6, hb6⟩ := HZ.out
                have hT := HD.out
                obtain ⟨wz, hwz, ks, hz⟩ := set47 w6 d 35 (.int .i64 k) (.string s) (.slice el.1 el.2.1 el.2.2) (.slice al.1 al.2.1 al.2.2) hb6
                rw [← hwz]
                have hd : d < wc.heap.size := (Array.getElem?_eq_some_iff.1 hT.row).1
                refine ⟨rfl, ⟨y.parents, lA, some a⟩, (ao, lA.length, ac), k, s, el, al, (hT.keep.then k6).trans ks (fun _ _ h => h) (fun i hi h => by have := hT.le; omega), hz, ⟨?_, fun s e => ?_, fun t' ht' => ?_⟩, rfl, hT.mean, by rw [HN2.out]; exact hmt⟩
                · exact StrsAt.keep.k ks (fun _ _ h => .inr h) (fun _ _ h => h) (StrsAt.keep.k (M' := fun i => i < wA.heap.size ∨ i = d) k6 (fun _ _ h => h.elim) (fun _ _ h => h) hT.par)
                · exact ((hT.att s e).keep (M' := fun i => i < wA.heap.size ∨ i = d) k6 (fun _ _ h => h.elim) (fun _ _ h => h)).keep ks (fun _ _ h => .inr h) (fun _ _ h => h)
                · cases ht'
                  have h9 := hT.keep.size
                  exact (hty.keep (M' := fun i => i < wA.heap.size ∨ i = d) (Keep.refl NoB _) (fun _ _ h => h.elim) (fun i hi h => by show i < _; rcases h with h | h <;> omega)).keep ks (fun _ _ h => .inr h) (fun _ _ h => h)
          case rest =>
            obtain ⟨rfl, e, ats, k, s, el, al, hT⟩ := hcut
            obtain ⟨so', sc', rfl⟩ := HL.out.1.row.shape
            have kwc : Keep NoB wo wc := HW.out.1.then hT.keep
            have hbc := kwc.heap HL.out.1.res (NoB.not _)
            have r0 : wc.cell? ⟨w.heap.size, 0, none⟩ = some (.slice so' lE.length sc') := by rw [cell_cells hbc]; rfl
            obtain ⟨e0, e1, e2, e3, e4, e5, e6, e7, _, _, _, _, _, _, _, _⟩ := cells8 hT.row
            obtain ⟨es, hes⟩ : ∃ es, es = e.tags.isSome := ⟨_, rfl⟩
            rw [← hes] at e3
            obtain ⟨w7, hw7⟩ : ∃ w7, w7 = wc := ⟨_, rfl⟩
            have HT2 := Lib.hid (And.intro hT (And.intro kwc (And.intro hbc hes)))
            clear hT kwc hbc hes hw7 w7 f3
            go_wp2_with (at_builtin
                         obtain ⟨xs, hown, hpush⟩ := ((HL.out.1.row.keep0 EntC.keeps HT2.out.2.1).keep0 EntC.keeps (Keep.alloc wc (.cells #[.string kj, .slice ps.1 ps.2.1 ps.2.2, .slice ats.1 ats.2.1 ats.2.2, .bool es, .int .i64 k, .string s, .slice el.1 el.2.1 el.2.2, .slice al.1 al.2.1 al.2.2] 35) NoB)).opened EntC.keeps
                         refine wpList_append_lies _ rfl _ _ 36 rfl w3.heap.size 35 iU _ 8 144 Tryz.underlying36 HU.out.1 HU.out.2.1 HU.out.2.2.1 HU.out.2.2.2 rfl (by omega) (.slice so' lE.length sc') lE.length xs rfl hown ⟨wc.heap.size, 0, none⟩ 1 1 [.string kj, .slice ps.1 ps.2.1 ps.2.2, .slice ats.1 ats.2.1 ats.2.2, .bool es, .int .i64 k, .string s, .slice el.1 el.2.1 el.2.2, .slice al.1 al.2.1 al.2.2] rfl rfl
                           (World.news_of_block (cs := #[.string kj, .slice ps.1 ps.2.1 ps.2.2, .slice ats.1 ats.2.1 ats.2.2, .bool es, .int .i64 k, .string s, .slice el.1 el.2.1 el.2.2, .slice al.1 al.2.1 al.2.2]) (t := 35) (fr := (0, 0)) (heap_alloc_new wc _)) (by simp [Value.oneCell']) (by omega) (by rw [HL.out.2]; unfold maxLen; omega) (by rw [HL.out.2]; omega) ?c5 (wc.heap.size + 1) (by simp) ?_
                         case c5 =>
                           have h1 := HL.out.1.keep.size
                           have h2 := HT2.out.2.1.size
                           rw [World.size_alloc]; omega
                         intro gg cap w8 hown8 hgrow hgat hglt
                         obtain ⟨hr8, hk8⟩ := hpush gg cap w8 (kj, e) [.string kj, .slice ps.1 ps.2.1 ps.2.2, .slice ats.1 ats.2.1 ats.2.2, .bool es, .int .i64 k, .string s, .slice el.1 el.2.1 el.2.2, .slice al.1 al.2.1 al.2.2] rfl
                           ⟨ps, ats, k, s, el, al, by rw [HT2.out.2.2.2], HT2.out.1.ent.keep (Keep.alloc _ _ NoB) (fun _ _ h => h.elim) (fun i hi h => by
                             have h1 := HL.out.1.keep.size
                             have h2 := HW.out.2.2
                             rcases h with h | h
                             · have := (HL.out.1.row.lt i h).2; exact .inl (by omega)
                             · exact .inl (by omega))⟩ hown8 hgrow (by simpa using hgat)
                         have hne : ¬ OB (.slice so' lE.length sc') w.heap.size := fun h => by
                           have h1 := (HL.out.1.row.lt _ h).1
                           have h2 := HC.out.2.2.2.2.size
                           omega
                         have hb8 := hk8.heap ((Keep.alloc wc (.cells #[.string kj, .slice ps.1 ps.2.1 ps.2.2, .slice ats.1 ats.2.1 ats.2.2, .bool es, .int .i64 k, .string s, .slice el.1 el.2.1 el.2.2, .slice al.1 al.2.1 al.2.2] 35) NoB).heap HT2.out.2.2.1 (NoB.not _)) hne
                         have r8 : w8.cell? ⟨w.heap.size, 0, none⟩ = some (.slice so' lE.length sc') := by rw [cell_cells hb8]; rfl
                         have z8 := frozen_cells hb8 0
                         have HX := Lib.hid (And.intro hr8 (And.intro hk8 hb8))
                         clear hr8 hk8 hb8 hown8 hgrow hgat hglt hown hpush hne e0 e1 e2 e3 e4 e5 e6 e7 r0)
            go_roundg (gk - 1)
            case measure => omega
            case rel =>
              obtain ⟨hr8, hk8, hb8⟩ := HX.out
              have hkeys := HL.out.1.keys
              have ks := Keep.setCell (M := (· = w.heap.size)) w8 ⟨w.heap.size, 0, none⟩ (.slice (some ⟨gg, 0, none⟩) (lE.length + 1) cap) (fun _ => rfl)
              refine ⟨j + 1, lE ++ [(kj, e)], _, by omega, by go_num, ?_, setCell_cells hb8 0 _, ?_, ?_, fun p hp => ?_⟩
              · exact ((HL.out.1.keep.then HT2.out.2.1).then (Keep.alloc _ _ _)).trans (hk8.trans ks (M'' := fun i => i = w.heap.size ∨ OB (.slice so' lE.length sc') i) (fun _ _ h => .inr h) (fun _ _ h => .inl h)) (fun _ _ h => h) (fun i hi h => by
                  rcases h with h | h
                  · exact h
                  · have := (HL.out.1.row.lt i h).1; omega)
              · exact hr8.keep EntC.keeps ks (fun i hi => by
                  have h2 := HC.out.2.2.2.2.size
                  have : i = w.heap.size := hi
                  omega)
              · obtain ⟨hj1, hj2⟩ := List.getElem?_eq_some_iff.1 HQ.out.2.2.2.2.2.2.2.1
                rw [List.map_append, hkeys, List.take_succ_eq_append_getElem hj1, hj2]; rfl
              · rcases List.mem_append.1 hp with hp | hp
                · exact HL.out.1.done p hp
                · simp only [List.mem_singleton] at hp
                  subst hp
                  exact ⟨y, kget_mem HE.out.2.1.nodup HQ.out.2.2.2.2.2.2.1, HT2.out.1.mean⟩
      · have hjm : j = m := by omega
        subst hjm
        clear hlt hj
        have kr : Keep (· = w.heap.size) w2 wr := HC.out.2.2.2.2.first HL.out.1.keep
        have g2 := kr.cell HP.out.2.2.1 HI.out.2.2.2.2.2
        have hkeysN := keysEnum_c wr (some oN)
        have hsortN := sortedEnum_c wr (some oN) lvN (HN.out.1.keep kr HI.out.2.2.2.1) (by rw [HN.out.2.1.len]; have := HN.out.2.2.1; omega) (fun p hp => by
          obtain ⟨x, hx, _⟩ := (HN.out.2.1.back HN.out.1.nodup).1 p.1 p.2 hp
          exact HN.out.2.2.2.2.2 _ (HN.out.2.2.2.2.1 _ hx))
        have HS2 := Lib.hid (And.intro hkeysN hsortN)
        have HK2 := Lib.hid kr
        clear kr hkeysN hsortN
        obtain ⟨w4, rfl⟩ : ∃ w4 : World, w4 = wr := ⟨_, rfl⟩
        go_wp2_with fail
        refine HS2.out.1.mono ?_
        rintro e wk ⟨rfl, hwk⟩
        subst hwk
        go_wp2_with fail
        refine HS2.out.2.mono ?_
        rintro e w5 ⟨ks', o', cc', rfl, hp', hpw', hat', k5⟩
        clear g2
        obtain ⟨m', hkn'⟩ : ∃ m', m' = ks'.length := ⟨_, rfl⟩
        rw [← hkn']
        have hmL' : m' ≤ 1000000 := by
          have h1 := (hp'.trans (HN.out.2.1.back HN.out.1.nodup).2).length_eq
          have h2 := HN.out.2.2.1
          rw [List.length_map] at h1; omega
        have HC2 := Lib.hid (And.intro hkn' (And.intro hp' (And.intro hpw' (And.intro hat' k5))))
        clear hkn' hp' hpw' hat' k5
        go_wp2_with fail
        go_loopg [88] m' (fun g i wr => ∃ (j2 : Nat) (lN : List (Str × List Str)) (sl2 : Value), j2 + g = m' ∧ i = .int .i64 j2 ∧ EnumL w5 wr w.heap.size sl RN ks' j2 lN sl2)
        case atStart => exact ⟨0, [], _, by omega, rfl, Keep.refl _ _, HC2.out.2.2.2.2.heap HL.out.1.res (NoB.not _), RowIs.nil _ _ _ _ _, rfl, fun _ h => by simp at h⟩
        case round =>
          obtain ⟨j2, lN, sl2, hj2, rfl, hl2⟩ := hrel
          have hlen2 : lN.length = j2 := by
            have h1 := congrArg List.length hl2.keys
            have h2 := HC2.out.1
            rw [List.length_map, List.length_take] at h1; omega
          have HL2 := Lib.hid (And.intro hl2 hlen2)
          clear hl2 hlen2
          by_cases hlt2 : j2 < m'
          · obtain ⟨hkn', hp', hpw', hat', k5⟩ := HC2.out
            obtain ⟨kj, hkj⟩ : ∃ kj, ks'[j2]? = some kj := ⟨_, List.getElem?_eq_getElem (by omega)⟩
            obtain ⟨v, hv⟩ : ∃ v, (kj, v) ∈ lvN := by
              have h1 : kj ∈ lvN.map (·.1) := hp'.mem_iff.1 (List.mem_of_getElem? hkj)
              obtain ⟨⟨k, v⟩, h2, rfl⟩ := List.mem_map.1 h1
              exact ⟨v, h2⟩
            obtain ⟨y, hy, hyv⟩ := (HI.out.2.1.back HN.out.1.nodup).1 kj v hv
            have hyL : y.2.length ≤ 1000000 := (HG.out.2.2.2.2.1 kj y (HN.out.2.2.2.1.back _ _ (kget_mem HN.out.2.1.nodup hy))).2
            obtain ⟨an, sv, rfl, hvs⟩ := hyv
            have kr : Keep (· = w.heap.size) w2 wr := (HK2.out.then k5).trans HL2.out.1.keep (fun _ _ h => h) (fun _ _ h => h)
            have hvsR := SliceAt.keep (M' := (· = w.heap.size)) hvs kr (fun _ _ h => .inr h) (fun _ _ h => .inr h) (.inr (by omega))
            obtain ⟨vo, vc, rfl, hvc⟩ := hvsR
            obtain ⟨vn, hvn⟩ : ∃ vn, vn = y.2.length := ⟨_, rfl⟩
            rw [← hvn] at hvc hyL hv
            obtain ⟨w6, hw6⟩ : ∃ w6, w6 = wr.alloc (.cells #[.string kj, .slice none 0 0] 67) := ⟨_, rfl⟩
            have k6 : Keep NoB wr w6 := hw6 ▸ Keep.alloc _ _ _
            have hb6 : w6.heap[wr.heap.size]? = some (.cells #[.string kj, .slice none 0 0] 67 (0, 0)) := hw6 ▸ (MapKept.heap_alloc wr _).1
            have hs6 : w6.heap.size = wr.heap.size + 1 := by rw [hw6, World.size_alloc]
            have hcell : w6.cell? ⟨c', 2, none⟩ = some (.map (some oN)) := k6.cell (kr.cell HP.out.2.2.1 HI.out.2.2.2.2.2) (NoB.not _)
            have hlk : (Instr.lookup 92 (.map (some oN)) (.string kj) false).run Tryz.prog w6 = .ok (.agg #[.string y.1, .map an, .slice vo vn vc]) w6 := by
              rw [KMap.lookup ((HN.out.1.keep kr HI.out.2.2.2.1).keep k6 (NoB.not _)) (strKey Tryz.underlying78) Tryz.underlying92 (zeroREnum w6) kj false, kget_mem HN.out.1.nodup hv]; rfl
            obtain ⟨ov', cc2, he, hcells⟩ := hat'
            simp only [Value.slice.injEq] at he
            obtain ⟨rfl, hx, rfl⟩ := he
            clear hx
            rcases hcells with h0 | ⟨bv, offv, rfl, hMv, hcl⟩
            · omega
            have hcv := HL2.out.1.keep.cell ((hcl j2 (by omega)).2 0 _ rfl) (by
              have h1 := HL.out.1.keep.size
              have h2 := HC.out.2.2.2.2.size
              show ¬ (bv = _)
              omega)
            simp only [Nat.mul_one, Nat.add_zero] at hcv
            have hkj' : ks'.getD j2 ⟨#[]⟩ = kj := by rw [List.getD_eq_getElem?_getD, hkj]; rfl
            rw [hkj'] at hcv
            have HQ2 := Lib.hid (And.intro hvc (And.intro hvn (And.intro hy (And.intro hkj (And.intro k6 (And.intro hb6 hs6))))))
            have HW6 := Lib.hid hw6
            have hf2 := renum_f2
            rw [hw6] at hcell hlk
            clear hw6
            clear hkn' hp' hpw' k5 hkj hv hy kr hvs hvc hvn hMv hcl hkj' k6 hb6 hs6
            obtain ⟨wo, rfl⟩ : ∃ wo : World, wo = wr := ⟨_, rfl⟩
            go_wp2_with fail
            clear hcell hlk hcv hf2
            have hw6' := HW6.out
            rw [← hw6']
            clear hw6'
            go_loopg [102] vn (fun g i wx => ∃ (q : Nat) (sv : Value), q + g = vn ∧ i = .int .i64 q ∧ Keep (· = wo.heap.size) w6 wx ∧ wx.heap[wo.heap.size]? = some (.cells #[.string kj, sv] 67 (0, 0)) ∧ wx.ownsRow w6.heap.size 9 1 sv q ((y.2.take q).map Value.string))
            case atStart => exact ⟨0, _, by omega, rfl, Keep.refl _ _, HQ2.out.2.2.2.2.2.1, rfl, .inl ⟨rfl, rfl⟩⟩
            case round =>
              obtain ⟨q, sv, hq, rfl, hk, hrow, hown⟩ := hrel
              obtain ⟨so', sn', sc', rfl⟩ : ∃ o n c, sv = .slice o n c := by
                rcases hown.2 with ⟨h, _⟩ | ⟨g, cap, cur, h, _⟩ <;> exact ⟨_, _, _, h⟩
              have HR := Lib.hid (And.intro hk (And.intro hrow hown))
              clear hk hrow hown
              by_cases hltq : q < vn
              · obtain ⟨hvc, hvn, hy, hkj, k6, hb6, hs6⟩ := HQ2.out
                rcases hvc with h0 | ⟨vb, voff, rfl, hvM, hvcl⟩
                · omega
                obtain ⟨hvl, hvcells⟩ := hvcl q hltq
                have hvb : vb < wo.heap.size := block_lt_of_cell (hvcells 0 _ rfl)
                have hv2 := (hvcells.keep k6 (NoB.not _)).keep HR.out.1 (by show ¬ (vb = _); omega)
                have f0 := hv2 0 _ rfl
                rw [Nat.add_zero] at f0
                have f1 := hv2 1 _ rfl
                obtain ⟨vq, hvq⟩ : ∃ vq, vq = y.2.getD q ⟨#[]⟩ := ⟨_, rfl⟩
                rw [← hvq] at f1
                have s6 := HR.out.1.size
                obtain ⟨wx, rfl⟩ : ∃ wx : World, wx = wr := ⟨_, rfl⟩
                have r1 : wx.cell? ⟨wo.heap.size, 1, none⟩ = some (.slice so' sn' sc') := by rw [cell_cells HR.out.2.1]; rfl
                have HV := Lib.hid (And.intro hvq (And.intro hvb (And.intro hs6 hvn)))
                have hlo : wo.heap.size < wx.heap.size := by omega
                clear hvq hvn hy hkj k6 hb6 hs6 hvM hvcl hvl hvcells hv2 hvb s6
                go_wp2_with (at_builtin
                             refine wpList_append_lies _ rfl _ _ 33 rfl w6.heap.size 9 iS _ 1 16 Tryz.underlying33 HUS.out.1 HUS.out.2.1 HUS.out.2.2.1 HUS.out.2.2.2 rfl (by omega) (.slice so' sn' sc') q ((y.2.take q).map Value.string) rfl ((HR.out.2.2.alloc (.cells #[.string y.1, .string vq] 105)).alloc (.cells #[.string vq] 9)) ⟨wx.heap.size + 1, 0, none⟩ 1 1 [.string vq] rfl rfl
                               (World.news_of_block (cs := #[.string vq]) (t := 9) (fr := (0, 0)) (by have h := heap_alloc_new (wx.alloc (.cells #[.string y.1, .string vq] 105)) (.cells #[.string vq] 9); rwa [World.size_alloc] at h)) (by simp [Value.oneCell']) (by omega) (by unfold maxLen; omega) (by omega) ?c5 (wx.heap.size + 1 + 1) (by simp) ?_
                             case c5 =>
                               have h1 := HR.out.1.size
                               rw [World.size_alloc, World.size_alloc]; omega
                             intro gg cap w8 hown8 hgrow hgat hglt
                             have kg := grown_keep HR.out.2.2 hgrow
                             have hb8 := kg.heap (((Keep.alloc wx (.cells #[.string y.1, .string vq] 105) NoB).then (Keep.alloc _ (.cells #[.string vq] 9) NoB)).heap HR.out.2.1 (NoB.not _)) (by have := HV.out.2.2.1; omega)
                             have r8 : w8.cell? ⟨wo.heap.size, 1, none⟩ = some (.slice so' sn' sc') := by rw [cell_cells hb8]; rfl
                             have z8 := frozen_cells hb8 1
                             have HX := Lib.hid (And.intro hown8 (And.intro kg hb8))
                             clear hown8 hgrow hgat hglt kg hb8 r1 f0 f1)
                go_roundg (gk - 1)
                case measure => omega
                case rel =>
                  obtain ⟨hown8, kg, hb8⟩ := HX.out
                  have s6 := HV.out.2.2.1
                  have s7 := HR.out.1.size
                  have ks := Keep.setCell (M := (· = wo.heap.size)) w8 ⟨wo.heap.size, 1, none⟩ (.slice (some ⟨gg, 0, none⟩) (q + 1) cap) (fun _ => rfl)
                  refine ⟨q + 1, _, by omega, by go_num, ?_, setCell_cells hb8 1 _, ?_⟩
                  · exact (HR.out.1.then ((Keep.alloc _ _ NoB).then (Keep.alloc _ _ NoB))).trans (kg.trans ks (M'' := fun i => i = wo.heap.size ∨ w6.heap.size ≤ i) (fun _ _ h => .inr h) (fun _ _ h => .inl h)) (fun _ _ h => h) (fun i hi h => by rcases h with h | h; exact h; omega)
                  · have hql : q < y.2.length := by have := HV.out.2.2.2; omega
                    have hv : vq = y.2[q] := by rw [HV.out.1, List.getD_eq_getElem?_getD, List.getElem?_eq_getElem hql]; rfl
                    rw [List.take_succ_eq_append_getElem hql, List.map_append, ← hv]
                    exact World.ownsRow.keep hown8 ks (fun i hi h => by have : i = wo.heap.size := h; omega)
              · have hqn : q = vn := by omega
                subst hqn
                clear hltq hq
                obtain ⟨w7, rfl⟩ : ∃ w7 : World, w7 = wr := ⟨_, rfl⟩
                obtain ⟨so2, sc2, rfl⟩ := HL2.out.1.row.shape
                obtain ⟨hvc, hvn, hy, hkj, k6, hb6, hs6⟩ := HQ2.out
                have s5 := HL2.out.1.keep.size
                have s4 := HC2.out.2.2.2.2.size
                have s3 := HL.out.1.keep.size
                have s2 := HC.out.2.2.2.2.size
                have k67 : Keep NoB wo w7 := k6.trans HR.out.1 (fun _ _ h => h) (fun i hi h => by omega)
                have hb7 := k67.heap HL2.out.1.res (NoB.not _)
                have r7 : w7.cell? ⟨w.heap.size, 1, none⟩ = some (.slice so2 lN.length sc2) := by rw [cell_cells hb7]; rfl
                have d0 : w7.cell? ⟨wo.heap.size, 0, none⟩ = some (.string kj) := by rw [cell_cells HR.out.2.1]; rfl
                have d1 : w7.cell? ⟨wo.heap.size, 1, none⟩ = some (.slice so' sn' sc') := by rw [cell_cells HR.out.2.1]; rfl
                have HZ := Lib.hid (And.intro hvn (And.intro hy (And.intro hkj (And.intro k67 (And.intro hb7 (And.intro hs6 (And.intro s2 (And.intro s3 (And.intro s4 s5)))))))))
                have h7 := HR.out.1.size
                have hlt7 : w.heap.size < w7.heap.size := by omega
                clear hvc hvn hy hkj k6 hb6 k67 hb7 s2 s3 s4 s5 hs6 h7
                go_wp2_with (at_builtin
                             obtain ⟨xs, hown, hpush⟩ := ((HL2.out.1.row.keep0 EnumC.keeps HZ.out.2.2.2.1).keep0 EnumC.keeps (Keep.alloc w7 (.cells #[.string kj, .slice so' sn' sc'] 67) NoB)).opened EnumC.keeps
                             refine wpList_append_lies _ rfl _ _ 37 rfl w5.heap.size 67 iN _ 2 40 Tryz.underlying37 HUN.out.1 HUN.out.2.1 HUN.out.2.2.1 HUN.out.2.2.2 rfl (by omega) (.slice so2 lN.length sc2) lN.length xs rfl hown ⟨w7.heap.size, 0, none⟩ 1 1 [.string kj, .slice so' sn' sc'] rfl rfl
                               (World.news_of_block (cs := #[.string kj, .slice so' sn' sc']) (t := 67) (fr := (0, 0)) (heap_alloc_new w7 _)) (by simp [Value.oneCell']) (by omega) (by rw [HL2.out.2]; unfold maxLen; omega) (by rw [HL2.out.2]; omega) ?c5 (w7.heap.size + 1) (by simp) ?_
                             case c5 =>
                               have h1 := HZ.out.2.2.2.1.size
                               have h2 := HZ.out.2.2.2.2.2.2.2.2.2
                               rw [World.size_alloc]; omega
                             intro gg cap w8 hown8 hgrow hgat hglt
                             obtain ⟨hr8, hk8⟩ := hpush gg cap w8 (kj, y.2) [.string kj, .slice so' sn' sc'] rfl
                               ⟨(so', sn', sc'), rfl, by
                                 have h1 := HR.out.2.2
                                 rw [HZ.out.1, List.take_length] at h1
                                 have h2 := (ownsRow_strs (M := fun i => OB (.slice so2 lN.length sc2) i ∨ i < w5.heap.size) h1 (fun i hi => by
                                   have h3 := HZ.out.2.2.2.2.2.1
                                   have h4 := HZ.out.2.2.2.2.2.2.2.2.2
                                   rcases hi with hi | hi
                                   · have := (HL2.out.1.row.lt i hi).2; omega
                                   · omega)).2
                                 exact StrsAt.keep.k (Keep.alloc _ _ NoB) (fun _ _ h => h.elim) (fun _ _ h => h) h2⟩ hown8 hgrow (by simpa using hgat)
                             have hne : ¬ OB (.slice so2 lN.length sc2) w.heap.size := fun h => by
                               have h1 := (HL2.out.1.row.lt _ h).1
                               have h3 := HZ.out.2.2.2.2.2.2
                               omega
                             have hb8 := hk8.heap ((Keep.alloc w7 (.cells #[.string kj, .slice so' sn' sc'] 67) NoB).heap HZ.out.2.2.2.2.1 (NoB.not _)) hne
                             have r8 : w8.cell? ⟨w.heap.size, 1, none⟩ = some (.slice so2 lN.length sc2) := by rw [cell_cells hb8]; rfl
                             have z8 := frozen_cells hb8 1
                             have HX := Lib.hid (And.intro hr8 (And.intro hk8 hb8))
                             clear hr8 hk8 hb8 hown8 hgrow hgat hglt hown hpush hne d0 d1 r7)
                go_roundg (m' - (j2 + 1))
                case measure => omega
                case rel =>
                  obtain ⟨hr8, hk8, hb8⟩ := HX.out
                  have hkeys := HL2.out.1.keys
                  have h3 := HZ.out.2.2.2.2.2.2
                  have ks := Keep.setCell (M := (· = w.heap.size)) w8 ⟨w.heap.size, 1, none⟩ (.slice (some ⟨gg, 0, none⟩) (lN.length + 1) cap) (fun _ => rfl)
                  refine ⟨j2 + 1, lN ++ [(kj, y.2)], _, by omega, by go_num, ?_, setCell_cells hb8 1 _, ?_, ?_, fun p hp => ?_⟩
                  · exact ((HL2.out.1.keep.then HZ.out.2.2.2.1).then (Keep.alloc _ _ _)).trans (hk8.trans ks (M'' := fun i => i = w.heap.size ∨ OB (.slice so2 lN.length sc2) i) (fun _ _ h => .inr h) (fun _ _ h => .inl h)) (fun _ _ h => h) (fun i hi h => by
                      rcases h with h | h
                      · exact h
                      · have := (HL2.out.1.row.lt i h).1; omega)
                  · exact hr8.keep EnumC.keeps ks (fun i hi => by
                      have : i = w.heap.size := hi
                      omega)
                  · obtain ⟨hj1, hj2'⟩ := List.getElem?_eq_some_iff.1 HZ.out.2.2.1
                    rw [List.map_append, hkeys, List.take_succ_eq_append_getElem hj1, hj2']; rfl
                  · rcases List.mem_append.1 hp with hp | hp
                    · exact HL2.out.1.done p hp
                    · simp only [List.mem_singleton] at hp
                      subst hp
                      exact ⟨y, kget_mem HN.out.2.1.nodup HZ.out.2.1, rfl⟩
          · have hjm : j2 = m' := by omega
            subst hjm
            clear hlt2 hj2
            have hb4 := HL2.out.1.res
            have kr : Keep (· = w.heap.size) w2 wr := (HK2.out.then HC2.out.2.2.2.2).trans HL2.out.1.keep (fun _ _ h => h) (fun _ _ h => h)
            have g3 := kr.cell HP.out.2.2.2 HI.out.2.2.2.2.2
            have k8 := Keep.alloc wr (.cells #[.map (some oA)] 93) NoB
            have hsA := sortedFunc_none 0 wr.heap.size oA (wr.alloc (.cells #[.map (some oA)] 93)) (.func (.func 26) #[] #[]) (by rw [cell_cells (MapKept.heap_alloc wr _).1]; rfl) ((HG.out.2.2.2.2.2.keep kr HI.out.2.2.2.2.1).keep k8 (NoB.not _))
            have HS3 := Lib.hid (And.intro hsA (And.intro k8 (And.intro kr hb4)))
            clear hsA k8 kr hb4
            obtain ⟨w8, rfl⟩ : ∃ w8 : World, w8 = wr := ⟨_, rfl⟩
            go_wp2_with fail
            refine (keysAct_c _ _).mono ?_
            rintro e wk ⟨rfl, hwk⟩
            subst hwk
            go_wp2_with fail
            refine HS3.out.1.mono ?_
            rintro e w9 ⟨rfl, k9⟩
            clear g3
            have hb9 := k9.heap (HS3.out.2.1.heap HS3.out.2.2.2 (NoB.not _)) (NoB.not _)
            have HK9 := Lib.hid (And.intro k9 hb9)
            clear k9 hb9
            have hb9 := HK9.out.2
            obtain ⟨so1, sc1, rfl⟩ := HL.out.1.row.shape
            obtain ⟨so2, sc2, rfl⟩ := HL2.out.1.row.shape
            have r0 : w9.cell? ⟨w.heap.size, 0, none⟩ = some (.slice so1 lE.length sc1) := by rw [cell_cells hb9]; rfl
            have r1 : w9.cell? ⟨w.heap.size, 1, none⟩ = some (.slice so2 lN.length sc2) := by rw [cell_cells hb9]; rfl
            have r2 : w9.cell? ⟨w.heap.size, 2, none⟩ = some (.slice none 0 0) := by rw [cell_cells hb9]; rfl
            have z0 := frozen_cells hb9 0
            have z1 := frozen_cells hb9 1
            have z2 := frozen_cells hb9 2
            clear hb9
            go_wp2_with fail
            refine wp_loop_rounds 1 ?_
            rw [rounds_succ]
            go_wp2_with fail
            obtain ⟨k9, hb9⟩ := HK9.out
            obtain ⟨wz, hwz, kz, hz, q0, q1, q2⟩ := set3 w9 w.heap.size _ (.slice so1 lE.length sc1) (.slice so2 lN.length sc2) (.slice none 0 0) hb9
            rw [← hwz]
            clear hwz r0 r1 r2 z0 z1 z2
            obtain ⟨hkn, hp, hpw, hat, k3⟩ := HC.out
            obtain ⟨hkn', hp', hpw', hat', k5⟩ := HC2.out
            have s2 := k3.size
            have s3 := HL.out.1.keep.size
            have s4 := k5.size
            have s5 := HL2.out.1.keep.size
            have k49 : Keep (· = w.heap.size) w4 wz := ((k5.first HL2.out.1.keep).then (HS3.out.2.1.then k9)).trans kz (fun _ _ h => h) (fun _ _ h => h)
            have hrE : RowIs EntC wz w3.heap.size 35 8 (.slice so1 lE.length sc1) lE := HL.out.1.row.keep EntC.keeps k49 (fun i hi => by have : i = w.heap.size := hi; omega)
            have hrN : RowIs EnumC wz w5.heap.size 67 2 (.slice so2 lN.length sc2) lN := (HL2.out.1.row.keep0 EnumC.keeps (HS3.out.2.1.then k9)).keep EnumC.keeps kz (fun i hi => by have : i = w.heap.size := hi; omega)
            obtain ⟨sE, hsE, hsE2⟩ := hrE.at EntC.keeps (M := (· < w.heap.size)) (fun i hi => by have : i < w.heap.size := hi; omega)
            obtain ⟨sN, hsN, hsN2⟩ := hrN.at EnumC.keeps (M := (· < w.heap.size)) (fun i hi => by have : i < w.heap.size := hi; omega)
            rw [hsE] at q0
            rw [hsN] at q1
            have hkE : lE.map (·.1) = ks := by rw [HL.out.1.keys, hkn, List.take_length]
            have hkN : lN.map (·.1) = ks' := by rw [HL2.out.1.keys, hkn', List.take_length]
            have kw : Keep NoB w wz := ((HB.out.2.then HP.out.1).then k3).trans (HL.out.1.keep.trans k49 (M'' := (· = w.heap.size)) (fun _ _ h => h) (fun _ _ h => h)) (fun _ _ h => h) (fun i hi h => by omega)
            refine bodyPost_ret (v := .tuple #[.agg #[slV sE, slV sN, slV (none, 0, 0)], .bool true, .bool false]) ?_ rfl (.inr ⟨HG.out.1, V, HG.out.2.1, HAC.out, HG.out.2.2.1, HG.out.2.2.2.1, lE, lN, sE, sN, (none, 0, 0), rfl, hsE2, hsN2, rfl, ⟨by rw [hkE]; exact hpw, by rw [hkE]; exact hp.nodup_iff.2 HE.out.1.nodup⟩, ⟨by rw [hkN]; exact hpw', by rw [hkN]; exact hp'.nodup_iff.2 HN.out.1.nodup⟩, fun p hpm => ?_, fun x y hxy => ?_, fun p hpm => ?_, fun x y hxy => ?_, kw⟩)
            · simp [results, Tryz.results10, go_sem, q0, q1, q2, Result.andThen]
            · obtain ⟨y, hy, hym⟩ := HL.out.1.done p hpm
              exact ⟨y, HE.out.2.2.2.2.2.back _ _ hy, hym⟩
            · have h1 := HE.out.2.2.2.2.2.has x y hxy
              rw [hkE]
              refine hp.mem_iff.2 ((HE.out.2.1.back HE.out.1.nodup).2.mem_iff.2 ?_)
              obtain ⟨z, hz⟩ := Option.isSome_iff_exists.1 h1
              exact List.mem_map.2 ⟨_, kget_some hz, rfl⟩
            · obtain ⟨y, hy, hym⟩ := HL2.out.1.done p hpm
              exact ⟨y.1, by rw [hym]; exact HN.out.2.2.2.1.back _ _ hy⟩
            · have h1 := HN.out.2.2.2.1.has x y hxy
              rw [hkN]
              refine hp'.mem_iff.2 ((HN.out.2.1.back HN.out.1.nodup).2.mem_iff.2 ?_)
              obtain ⟨z, hz⟩ := Option.isSome_iff_exists.1 h1
              exact List.mem_map.2 ⟨_, kget_some hz, rfl⟩
end Go.Proofs.YthhjehajdcgkhaaGreatDoor
