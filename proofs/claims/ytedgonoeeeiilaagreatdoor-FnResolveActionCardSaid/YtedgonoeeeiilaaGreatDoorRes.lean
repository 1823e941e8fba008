/- The walk of the function that resolves given namespaces and tells back what they are resolved to. -/
import Derived.Test.YtedgonoeeeiilaaGreatDoorJMean
import Derived.Deep.RegionLaw
namespace Go.Proofs.YtedgonoeeeiilaaGreatDoor
open Go.RowKit

/-- Records in a row. -/
def RowAt {α : Type} (R : World → (Nat → Prop) → α → List Value → Prop) (size : Nat) (w : World) (M : Nat → Prop) (l : List α) (s : Sl) : Prop :=
  s.2.1 = l.length ∧ (l = [] ∨ ∃ b off, s.1 = some ⟨b, off, none⟩ ∧ ¬ M b ∧ ∀ i x, l[i]? = some x → ∃ cs, cs.length = size ∧ CellsAt w b (off + i * size) cs ∧ R w M x cs)
theorem RowIs.at {α : Type} {R : World → (Nat → Prop) → α → List Value → Prop} {w : World} {base : Nat} {E : TypeId} {size : Nat} {v : Value} {l : List α} (hR : KeepsC R) (h : RowIs R w base E size v l) {M : Nat → Prop} (hM : ∀ i, M i → i < base) : ∃ s : Sl, v = slV s ∧ RowAt R size w M l s := by
  obtain ⟨ov, c, rfl, ho⟩ := h.over hR
  refine ⟨(ov, l.length, c), rfl, rfl, ?_⟩
  rcases ho with h | ⟨b, e, hb, h⟩
  · exact .inl h
  · refine .inr ⟨b, 0, e, fun h => by have := hM b h; omega, fun i x hx => ?_⟩
    obtain ⟨cs, h1, h2, h3⟩ := h i x hx
    exact ⟨cs, h1, h2, hR.k (Keep.refl NoB _) (fun _ _ h => h.elim) (fun i _ h => hM i h) h3⟩
theorem RowAt.keep {α : Type} {R : World → (Nat → Prop) → α → List Value → Prop} {size : Nat} (hR : KeepsC R) (hs : 0 < size) {w w' : World} {M M' M2 : Nat → Prop} {l : List α} {s : Sl} (h : RowAt R size w M l s) (hk : Keep M2 w w') (h2 : ∀ i, i < w.heap.size → M2 i → M i) (h3 : ∀ i, i < w.heap.size → M' i → M i) : RowAt R size w' M' l s := by
  refine ⟨h.1, ?_⟩
  rcases h.2 with h | ⟨b, off, e, hM, h⟩
  · exact .inl h
  · cases l with
    | nil => exact .inl rfl
    | cons x l =>
      have hb : b < w.heap.size := by
        obtain ⟨cs, h1, h2, _⟩ := h 0 x rfl
        exact block_lt_of_cell (h2 0 _ (List.getElem?_eq_getElem (by omega)))
      refine .inr ⟨b, off, e, fun q => hM (h3 b hb q), fun i y hy => ?_⟩
      obtain ⟨cs, h4, h5, h6⟩ := h i y hy
      exact ⟨cs, h4, h5.keep hk fun q => hM (h2 b hb q), hR.k hk h2 h3 h6⟩

/-- A declared entity type as it is told. -/
structure OEntIs (w : World) (M : Nat → Prop) (e : IEnt) (ps ats : Sl) (k : Int) (s : Str) (el al : Sl) : Prop where
  par : StrsAt w M e.parents (slV ps)
  att : ∀ s e', OTyIs w M (.record e.attrs) (tyV 6 s e' ats)
  tag : ∀ t, e.tags = some t → OTyIs w M t (tyV k s el al)
theorem OEntIs.keep {w w' : World} {M M' M2 : Nat → Prop} {e : IEnt} {ps ats : Sl} {k : Int} {s : Str} {el al : Sl} (h : OEntIs w M e ps ats k s el al) (hk : Keep M2 w w') (h2 : ∀ i, i < w.heap.size → M2 i → M i) (h3 : ∀ i, i < w.heap.size → M' i → M i) : OEntIs w' M' e ps ats k s el al :=
  ⟨StrsAt.keep.k hk h2 h3 h.par, fun s e' => (h.att s e').keep hk h2 h3, fun t ht => (h.tag t ht).keep hk h2 h3⟩
def EntC (w : World) (M : Nat → Prop) (x : Str × IEnt) (cs : List Value) : Prop :=
  ∃ ps ats k s el al, cs = [.string x.1, slV ps, slV ats, .bool x.2.tags.isSome, .int .i64 k, .string s, slV el, slV al] ∧ OEntIs w M x.2 ps ats k s el al
theorem EntC.keeps : KeepsC EntC := ⟨fun hk h2 h3 ⟨ps, ats, k, s, el, al, e, h⟩ => ⟨ps, ats, k, s, el, al, e, h.keep hk h2 h3⟩⟩
/-- A declared enumeration. -/
def EnumC (w : World) (M : Nat → Prop) (x : Str × List Str) (cs : List Value) : Prop := ∃ vl, cs = [.string x.1, slV vl] ∧ StrsAt w M x.2 (slV vl)
theorem EnumC.keeps : KeepsC EnumC := ⟨fun hk h2 h3 ⟨vl, e, h⟩ => ⟨vl, e, StrsAt.keep.k hk h2 h3 h⟩⟩

/-- A shape's attributes. -/
def ShapeL : Option RTy → List (Str × RTy × Bool) → Prop
  | none, l => l = []
  | some t, l => t = .record l
/-- What a resolved entity type means. -/
def MeantEnt (y : REnt) (e : IEnt) : Prop := e.parents = y.parents ∧ (∃ l, ShapeL y.shape l ∧ Meant (.record l) (.record e.attrs)) ∧
  (match y.tags, e.tags with
    | none, none => True
    | some t, some a => Meant t a
    | _, _ => False)
structure REntOk (y : REnt) : Prop where
  par : y.parents.length ≤ 1000000
  shape : ∀ t, y.shape = some t → ROk t
  tags : ∀ t, y.tags = some t → ROk t
theorem meantShape_c {w0 : World} {M : Nat → Prop} {sh : Option RTy} {sv : Value} (h : RShape w0 M sh sv) (hok : ∀ t, sh = some t → ROk t) :
    ∃ mb, sv = .map mb ∧ ∃ l, ShapeL sh l ∧ ∀ w, Keep NoB w0 w → Calls Tryz.prog 16 #[.map mb] w (MeantRec w l) := by
  cases sh with
  | none => exact ⟨none, h, [], rfl, fun w _ => meantAttrs_none w⟩
  | some t =>
    obtain ⟨b, rfl, hb⟩ := h
    have hok' := hok t rfl
    have hl : ∃ l, t = .record l := by cases hb; exact ⟨_, rfl⟩
    obtain ⟨l, rfl⟩ := hl
    exact ⟨some b, rfl, l, rfl, meantAttrs_of hb hok' fun t v hr hv => meantType_c hv hr⟩

/-- What is asked of the data. -/
structure ResOk (l : List ISp) (D : Str → SpD) (fuel : Nat) : Prop where
  com : ComOk (bareSp l) D (namedSp l)
  term : ∀ V, EnvIs (bareSp l) D (· ∈ namedSp l) V → Acyc V → (∀ n ∈ (bareSp l).en, ∃ x, resEnt V fuel ⟨#[]⟩ n ((bareSp l).AE n) = some x) ∧ (∀ s ∈ namedSp l, ∀ n ∈ (D s).en, ∃ x, resEnt V fuel s n ((D s).AE n) = some x) ∧
    (∀ n ∈ (bareSp l).an, ∃ x, resAct V fuel ⟨#[]⟩ n ((bareSp l).AA n) = some x) ∧ ∀ s ∈ namedSp l, ∀ n ∈ (D s).an, ∃ x, resAct V fuel s n ((D s).AA n) = some x
  ents : ∀ V, EnvIs (bareSp l) D (· ∈ namedSp l) V → Acyc V → ∀ x y, EntsOf V fuel (bareSp l) D (· ∈ namedSp l) x y → REntOk y
  names : ∃ ns : List Str, ns.length ≤ 1000000 ∧ (∀ n ∈ ns, n.size ≤ 3000000) ∧ ∀ V, EnvIs (bareSp l) D (· ∈ namedSp l) V → Acyc V → ∀ x y, EntsOf V fuel (bareSp l) D (· ∈ namedSp l) x y → x ∈ ns
  enums : ∃ ns : List Str, ns.length ≤ 1000000 ∧ (∀ n ∈ ns, n.size ≤ 3000000) ∧ ∀ x y, EnumsOf (bareSp l) D (· ∈ namedSp l) x y → x ∈ ns ∧ y.2.length ≤ 1000000
  acts : ∀ V, EnvIs (bareSp l) D (· ∈ namedSp l) V → Acyc V → ∀ x y, ActsOf V fuel (bareSp l) D (· ∈ namedSp l) x y → RActOk y
  few : ∃ ns : List Uid, ns.length ≤ 1000000 ∧ ∀ V, EnvIs (bareSp l) D (· ∈ namedSp l) V → Acyc V → ∀ x y, ActsOf V fuel (bareSp l) D (· ∈ namedSp l) x y → x ∈ ns

/-- The names of a list, in order, each once. -/
def InOrder {α : Type} (l : List (Str × α)) : Prop := (l.map (·.1)).Pairwise leS ∧ (l.map (·.1)).Nodup
def InOrderU {α : Type} (l : List (Uid × α)) : Prop := (l.map (·.1)).Pairwise (fun x y => ¬ ltU y x) ∧ (l.map (·.1)).Nodup
def ImplPost (l : List ISp) (D : Str → SpD) (fuel : Nat) (w : World) (e : Ending) (w' : World) : Prop :=
  (e = .returned (.tuple #[.agg #[.slice none 0 0, .slice none 0 0, .slice none 0 0], .bool false, .bool false]) ∧ (Wrong (bareSp l) D (namedSp l) ∨ ∃ V, EnvIs (bareSp l) D (· ∈ namedSp l) V ∧ (¬ Acyc V ∨ Acyc V ∧ (Unres (bareSp l) D (namedSp l) V fuel ∨ ∃ RA, ActsAre (bareSp l) D (· ∈ namedSp l) V fuel RA ∧ BadMem RA))) ∧ Keep NoB w w') ∨
  (¬ Wrong (bareSp l) D (namedSp l) ∧ ∃ V, EnvIs (bareSp l) D (· ∈ namedSp l) V ∧ Acyc V ∧ (∀ n ∈ (bareSp l).en, ∃ x, resEnt V fuel ⟨#[]⟩ n ((bareSp l).AE n) = some (some x)) ∧ (∀ s ∈ namedSp l, ∀ n ∈ (D s).en, ∃ x, resEnt V fuel s n ((D s).AE n) = some (some x)) ∧
    (∀ n ∈ (bareSp l).an, ∃ x, resAct V fuel ⟨#[]⟩ n ((bareSp l).AA n) = some (some x)) ∧ (∀ s ∈ namedSp l, ∀ n ∈ (D s).an, ∃ x, resAct V fuel s n ((D s).AA n) = some (some x)) ∧ (∃ RA, ActsAre (bareSp l) D (· ∈ namedSp l) V fuel RA ∧ ¬ BadMem RA) ∧
    ∃ (lE : List (Str × IEnt)) (lN : List (Str × List Str)) (lA : List (Uid × OAct)) (sE sN sA : Sl), e = .returned (.tuple #[.agg #[slV sE, slV sN, slV sA], .bool true, .bool false]) ∧
      RowAt EntC 8 w' (· < w.heap.size) lE sE ∧ RowAt EnumC 2 w' (· < w.heap.size) lN sN ∧ RowAt ActC 7 w' (· < w.heap.size) lA sA ∧ InOrder lE ∧ InOrder lN ∧ InOrderU lA ∧
      (∀ p ∈ lE, ∃ y, EntsOf V fuel (bareSp l) D (· ∈ namedSp l) p.1 y ∧ MeantEnt y p.2) ∧ (∀ x y, EntsOf V fuel (bareSp l) D (· ∈ namedSp l) x y → x ∈ lE.map (·.1)) ∧
      (∀ p ∈ lN, ∃ q, EnumsOf (bareSp l) D (· ∈ namedSp l) p.1 (q, p.2)) ∧ (∀ x y, EnumsOf (bareSp l) D (· ∈ namedSp l) x y → x ∈ lN.map (·.1)) ∧
      (∀ p ∈ lA, ∃ y, ActsOf V fuel (bareSp l) D (· ∈ namedSp l) p.1 y ∧ MeantAct y p.2) ∧ (∀ x y, ActsOf V fuel (bareSp l) D (· ∈ namedSp l) x y → x ∈ lA.map (·.1)) ∧ Keep NoB w w')

theorem infoIEnt : (Tryz.prog.info? 53).map (fun i => (i.zero, i.size, i.bytes)) = some (some (.agg #[.string ⟨#[]⟩, .slice none 0 0, .slice none 0 0, .bool false, .int .i64 0, .string ⟨#[]⟩, .slice none 0 0, .slice none 0 0]), 8, 144) := by kernel_rfl
theorem infoIEnum : (Tryz.prog.info? 93).map (fun i => (i.zero, i.size, i.bytes)) = some (some (.agg #[.string ⟨#[]⟩, .slice none 0 0]), 2, 40) := by kernel_rfl
theorem zeroREnt (w : World) : (zeroValue 79).run Tryz.prog w = .ok (.agg #[.string ⟨#[]⟩, .map none, .slice none 0 0, .map none, .nilIface]) w := by kernel_rfl
theorem zeroREnum (w : World) : (zeroValue 91).run Tryz.prog w = .ok (.agg #[.string ⟨#[]⟩, .map none, .slice none 0 0]) w := by kernel_rfl

theorem KMap.ne_cells {κ : Type} {enc : κ → Value} {w : World} {m b : Nat} {l : List (κ × Value)} (h : KMap enc w m l) {cs : Array Value} {T : TypeId} {f : Nat × Nat} (hb : w.heap[b]? = some (.cells cs T f)) : m ≠ b := by
  rintro rfl
  obtain ⟨es, cl, he, _⟩ := h
  rw [hb] at he; cases he
theorem RTyIs.apart {w : World} {M : Nat → Prop} {t : RTy} {v : Value} (h : RTyIs w M t v) {b : Nat} {cs : Array Value} {T : TypeId} {f : Nat × Nat} (hb : w.heap[b]? = some (.cells cs T f)) : RTyIs w (fun i => M i ∨ i = b) t v := by
  induction h with
  | str => exact .str
  | long => exact .long
  | bool => exact .bool
  | ext s hs => exact .ext s hs
  | set _ ih => exact .set ih
  | record hm hM hn hl ha _ ih =>
    refine .record hm (fun q => ?_) hn hl ha ih
    rcases q with q | rfl
    · exact hM q
    · obtain ⟨es, cl, he, _⟩ := hm
      rw [hb] at he; cases he
  | ent s hs => exact .ent s hs
theorem REntIs.apart {w : World} {M : Nat → Prop} {y : REnt} {v : Value} (h : REntIs w M y v) {b : Nat} {a0 a1 a2 : Value} {T : TypeId} {f : Nat × Nat} (hb : w.heap[b]? = some (.cells #[a0, a1, a2] T f)) (h0 : ∀ (i : Nat) (s : Str), (#[a0, a1, a2] : Array Value)[i]? ≠ some (Value.string s)) : REntIs w (fun i => M i ∨ i = b) y v := by
  obtain ⟨an, pv, sv, tv, e, ⟨ov, c, e1, hp⟩, hs, ht⟩ := h
  refine ⟨an, pv, sv, tv, e, ⟨ov, c, e1, ?_⟩, ?_, ?_⟩
  · rcases Nat.eq_zero_or_pos y.parents.length with h | hpos
    · exact .inl h
    · rcases hp with h | ⟨g, off, e2, hM, hc⟩
      · exact .inl h
      · refine .inr ⟨g, off, e2, fun q => ?_, hc⟩
        rcases q with q | rfl
        · exact hM q
        · have h1 := (hc 0 hpos).2 0 _ rfl
          rw [cell_cells hb] at h1
          exact h0 _ _ h1
  · cases hsh : y.shape with
    | none => rw [hsh] at hs; exact hs
    | some l => rw [hsh] at hs; obtain ⟨b', e2, h⟩ := hs; exact ⟨b', e2, h.apart hb⟩
  · cases htg : y.tags with
    | none => rw [htg] at ht; exact ht
    | some t => rw [htg] at ht; exact RTyIs.apart ht hb
theorem REnumIs.apart {w : World} {M : Nat → Prop} {y : Str × List Str} {v : Value} (h : REnumIs w M y v) {b : Nat} {a0 a1 a2 : Value} {T : TypeId} {f : Nat × Nat} (hb : w.heap[b]? = some (.cells #[a0, a1, a2] T f)) (h0 : ∀ (i : Nat) (s : Str), (#[a0, a1, a2] : Array Value)[i]? ≠ some (Value.string s)) : REnumIs w (fun i => M i ∨ i = b) y v := by
  obtain ⟨an, sv, e, ov, c, e1, hp⟩ := h
  refine ⟨an, sv, e, ov, c, e1, ?_⟩
  rcases Nat.eq_zero_or_pos y.2.length with h | hpos
  · exact .inl h
  · rcases hp with h | ⟨g, off, e2, hM, hc⟩
    · exact .inl h
    · refine .inr ⟨g, off, e2, fun q => ?_, hc⟩
      rcases q with q | rfl
      · exact hM q
      · have h1 := (hc 0 hpos).2 0 _ rfl
        rw [cell_cells hb] at h1
        exact h0 _ _ h1
theorem StrsAt.apart {w : World} {M : Nat → Prop} {l : List Str} {v : Value} (h : StrsAt w M l v) {b : Nat} {a0 a1 a2 : Value} {T : TypeId} {f : Nat × Nat} (hb : w.heap[b]? = some (.cells #[a0, a1, a2] T f)) (h0 : ∀ (i : Nat) (s : Str), (#[a0, a1, a2] : Array Value)[i]? ≠ some (Value.string s)) : StrsAt w (fun i => M i ∨ i = b) l v := by
  obtain ⟨ov, c, e1, hp⟩ := h
  refine ⟨ov, c, e1, ?_⟩
  rcases Nat.eq_zero_or_pos l.length with h | hpos
  · exact .inl h
  · rcases hp with h | ⟨g, off, e2, hM, hc⟩
    · exact .inl h
    · refine .inr ⟨g, off, e2, fun q => ?_, hc⟩
      rcases q with q | rfl
      · exact hM q
      · have h1 := (hc 0 hpos).2 0 _ rfl
        rw [cell_cells hb] at h1
        exact h0 _ _ h1
theorem RActIs.apart {w : World} {M : Nat → Prop} {y : RAct} {v : Value} (h : RActIs w M y v) {b : Nat} {a0 a1 a2 : Value} {T : TypeId} {f : Nat × Nat} (hT : T ≠ 116) (hb : w.heap[b]? = some (.cells #[a0, a1, a2] T f)) (h0 : ∀ (i : Nat) (s : Str), (#[a0, a1, a2] : Array Value)[i]? ≠ some (Value.string s)) : RActIs w (fun i => M i ∨ i = b) y v := by
  obtain ⟨an, pv, tv, e, ⟨m, lp, e1, hM, hm, hu⟩, ht⟩ := h
  refine ⟨an, pv, tv, e, ⟨m, lp, e1, fun q => q.elim hM (fun e => hm.ne_cells hb e), hm, hu⟩, ?_⟩
  cases hq : y.app with
  | none => rw [hq] at ht; exact ht
  | some x =>
    rw [hq] at ht
    obtain ⟨g, pv, rv, cv, e2, hMg, hg, h1, h2, b', e3, h3⟩ := ht
    refine ⟨g, pv, rv, cv, e2, fun q => q.elim hMg (fun e => ?_), hg, h1.apart hb h0, h2.apart hb h0, b', e3, h3.apart hb⟩
    subst e
    rw [hb] at hg
    simp only [Option.some.injEq, Obj.cells.injEq] at hg
    exact hT hg.2.1

/-- What the region lays that makes a told entity type. -/
structure Told11 (wA wx : World) (kj : Str) (tb : Bool) (y : REnt) (d : Nat) (ps : Sl) (lA : List (Str × ATy × Bool)) (ao : Option Addr) (ac : Nat) : Prop where
  le : wA.heap.size ≤ d
  keep : Keep NoB wA wx
  row : wx.heap[d]? = some (.cells #[.string kj, .slice ps.1 ps.2.1 ps.2.2, .slice ao lA.length ac, .bool tb, .int .i64 0, .string ⟨#[]⟩, .slice none 0 0, .slice none 0 0] 53 (0, 0))
  par : StrsAt wx (fun i => i < wA.heap.size ∨ i = d) y.parents (slV ps)
  att : ∀ s e, OTyIs wx (fun i => i < wA.heap.size ∨ i = d) (.record lA) (tyV 6 s e (ao, lA.length, ac))
  mean : ∃ l', ShapeL y.shape l' ∧ Meant (.record l') (.record lA)
theorem told_late {wA w5 : World} {kj : Str} {tb : Bool} {y : REnt} {ps : Sl} {lA : List (Str × ATy × Bool)} {ao : Option Addr} {ac : Nat} (k : Keep NoB wA w5) (hp : StrsAt w5 (· < wA.heap.size) y.parents (slV ps)) (ha : ∀ s e, OTyIs w5 (· < wA.heap.size) (.record lA) (tyV 6 s e (ao, lA.length, ac))) (hm : ∃ l', ShapeL y.shape l' ∧ Meant (.record l') (.record lA)) :
    Told11 wA (w5.alloc (.cells #[.string kj, .slice ps.1 ps.2.1 ps.2.2, .slice ao lA.length ac, .bool tb, .int .i64 0, .string ⟨#[]⟩, .slice none 0 0, .slice none 0 0] 53)) kj tb y w5.heap.size ps lA ao ac :=
  ⟨k.size, k.then (Keep.alloc _ _ _), (MapKept.heap_alloc _ _).1, StrsAt.keep.k (Keep.alloc _ _ NoB) (fun _ _ h => h.elim) (fun i hi h => h.elim id fun e => by omega) hp, fun s e => (ha s e).keep (Keep.alloc _ _ NoB) (fun _ _ h => h.elim) (fun i hi h => h.elim id fun e => by omega), hm⟩
theorem told_early {wA w5 : World} {kj : Str} {tb : Bool} {y : REnt} {d : Nat} {ps : Sl} {lA : List (Str × ATy × Bool)} {ao : Option Addr} {ac : Nat} {a0 a1 a2 a3 a4 a5 a6 a7 : Value} (hd : w5.heap[d]? = some (.cells #[a0, a1, a2, a3, a4, a5, a6, a7] 53 (0, 0))) (hle : wA.heap.size ≤ d) (k : Keep NoB wA w5) (hp : StrsAt w5 (fun i => i < wA.heap.size ∨ i = d) y.parents (slV ps)) (ha : ∀ s e, OTyIs w5 (fun i => i < wA.heap.size ∨ i = d) (.record lA) (tyV 6 s e (ao, lA.length, ac))) (hm : ∃ l', ShapeL y.shape l' ∧ Meant (.record l') (.record lA)) :
    Told11 wA ((((((((w5.setCell ⟨d, 0, none⟩ (.string kj)).setCell ⟨d, 1, none⟩ (.slice ps.1 ps.2.1 ps.2.2)).setCell ⟨d, 2, none⟩ (.slice ao lA.length ac)).setCell ⟨d, 3, none⟩ (.bool tb)).setCell ⟨d, 4, none⟩ (.int .i64 0)).setCell ⟨d, 5, none⟩ (.string ⟨#[]⟩)).setCell ⟨d, 6, none⟩ (.slice none 0 0)).setCell ⟨d, 7, none⟩ (.slice none 0 0)) kj tb y d ps lA ao ac := by
  obtain ⟨wz, hwz, ks, hz⟩ := set8 w5 d 53 (.string kj) (.slice ps.1 ps.2.1 ps.2.2) (.slice ao lA.length ac) (.bool tb) (.int .i64 0) (.string ⟨#[]⟩) (.slice none 0 0) (.slice none 0 0) hd
  rw [← hwz]
  exact ⟨hle, k.trans ks (fun _ _ h => h) (fun i hi h => by omega), hz, StrsAt.keep.k ks (fun _ _ h => .inr h) (fun _ _ h => h) hp, fun s e => (ha s e).keep ks (fun _ _ h => .inr h) (fun _ _ h => h), hm⟩

theorem set47 (w : World) (b : Nat) (T : TypeId) (v4 v5 v6 v7 : Value) {a0 a1 a2 a3 a4 a5 a6 a7 : Value} (h : w.heap[b]? = some (.cells #[a0, a1, a2, a3, a4, a5, a6, a7] T (0, 0))) :
    ∃ wz, wz = ((((w.setCell ⟨b, 4, none⟩ v4).setCell ⟨b, 5, none⟩ v5).setCell ⟨b, 6, none⟩ v6).setCell ⟨b, 7, none⟩ v7) ∧ Keep (· = b) w wz ∧ wz.heap[b]? = some (.cells #[a0, a1, a2, a3, v4, v5, v6, v7] T (0, 0)) := by
  have kst : ∀ (u : World) (i : Nat) (v : Value), Keep (· = b) u (u.setCell ⟨b, i, none⟩ v) := fun u i v => Keep.setCell _ _ _ (fun _ => rfl)
  have kj : ∀ {u v x : World}, Keep (· = b) u v → Keep (· = b) v x → Keep (· = b) u x := fun h1 h2 => h1.trans h2 (fun _ _ h => h) (fun _ _ h => h)
  have h4 : (w.setCell ⟨b, 4, none⟩ v4).heap[b]? = some (.cells #[a0, a1, a2, a3, v4, a5, a6, a7] T (0, 0)) := setCell_cells h 4 v4
  have h5 : ((w.setCell ⟨b, 4, none⟩ v4).setCell ⟨b, 5, none⟩ v5).heap[b]? = some (.cells #[a0, a1, a2, a3, v4, v5, a6, a7] T (0, 0)) := setCell_cells h4 5 v5
  have h6 : (((w.setCell ⟨b, 4, none⟩ v4).setCell ⟨b, 5, none⟩ v5).setCell ⟨b, 6, none⟩ v6).heap[b]? = some (.cells #[a0, a1, a2, a3, v4, v5, v6, a7] T (0, 0)) := setCell_cells h5 6 v6
  have h7 : ((((w.setCell ⟨b, 4, none⟩ v4).setCell ⟨b, 5, none⟩ v5).setCell ⟨b, 6, none⟩ v6).setCell ⟨b, 7, none⟩ v7).heap[b]? = some (.cells #[a0, a1, a2, a3, v4, v5, v6, v7] T (0, 0)) := setCell_cells h6 7 v7
  exact ⟨_, rfl, kj (kj (kj (kst w 4 v4) (kst _ 5 v5)) (kst _ 6 v6)) (kst _ 7 v7), h7⟩
/-- What stands there behind the tags. -/
structure Told12 (wA wx : World) (kj : Str) (y : REnt) (d : Nat) (e : IEnt) (ps ats : Sl) (k : Int) (s : Str) (el al : Sl) : Prop where
  keep : Keep NoB wA wx
  row : wx.heap[d]? = some (.cells #[.string kj, .slice ps.1 ps.2.1 ps.2.2, .slice ats.1 ats.2.1 ats.2.2, .bool e.tags.isSome, .int .i64 k, .string s, .slice el.1 el.2.1 el.2.2, .slice al.1 al.2.1 al.2.2] 53 (0, 0))
  ent : OEntIs wx (fun i => i < wA.heap.size ∨ i = d) e ps ats k s el al
  mean : MeantEnt y e

/-- The first loop: the first j entity types have been told. -/
structure EntL (w2 w3 wr : World) (a : Nat) (RE : List (Str × REnt)) (ks : List Str) (j : Nat) (lE : List (Str × IEnt)) (sl : Value) : Prop where
  keep : Keep (· = a) w3 wr
  res : wr.heap[a]? = some (.cells #[sl, .slice none 0 0, .slice none 0 0] 39 (0, 0))
  row : RowIs EntC wr w3.heap.size 53 8 sl lE
  keys : lE.map (·.1) = ks.take j
  done : ∀ p ∈ lE, ∃ y, kget RE p.1 = some y ∧ MeantEnt y p.2

/-- The second loop: the first j enumerations have been told. -/
structure EnumL (w5 wr : World) (a : Nat) (sE : Value) (RN : List (Str × (Str × List Str))) (ks : List Str) (j : Nat) (lN : List (Str × List Str)) (sl : Value) : Prop where
  keep : Keep (· = a) w5 wr
  res : wr.heap[a]? = some (.cells #[sE, sl, .slice none 0 0] 39 (0, 0))
  row : RowIs EnumC wr w5.heap.size 93 2 sl lN
  keys : lN.map (·.1) = ks.take j
  done : ∀ p ∈ lN, ∃ y, kget RN p.1 = some y ∧ p.2 = y.2
/-- The third loop: the first j actions have been told. -/
structure ActL (w9 wr : World) (a : Nat) (sE sN : Value) (RA : List (Uid × RAct)) (ks : List Uid) (j : Nat) (lA : List (Uid × OAct)) (sl : Value) : Prop where
  keep : Keep (· = a) w9 wr
  res : wr.heap[a]? = some (.cells #[sE, sN, sl] 39 (0, 0))
  row : RowIs ActC wr w9.heap.size 48 7 sl lA
  keys : lA.map (·.1) = ks.take j
  done : ∀ p ∈ lA, ∃ y, kget RA p.1 = some y ∧ MeantAct y p.2
/-- What the region lays that makes a told action. -/
structure Told31 (wA wx : World) (kj : Uid) (tb : Bool) (d : Nat) : Prop where
  le : wA.heap.size ≤ d
  keep : Keep NoB wA wx
  row : wx.heap[d]? = some (.cells #[.string kj.1, .string kj.2, .slice none 0 0, .bool tb, .slice none 0 0, .slice none 0 0, .slice none 0 0] 48 (0, 0))
/-- The loop over an action's groups. -/
structure ParL (w6 wx : World) (d : Nat) (kj : Uid) (tb : Bool) (ks : List Uid) (q : Nat) (sl : Value) : Prop where
  keep : Keep (· = d) w6 wx
  row : wx.heap[d]? = some (.cells #[.string kj.1, .string kj.2, sl, .bool tb, .slice none 0 0, .slice none 0 0, .slice none 0 0] 48 (0, 0))
  own : wx.ownsRow w6.heap.size 34 2 sl q (uidCells (ks.take q))
/-- What stands there behind that to which it applies. -/
structure Told39 (wA wx : World) (kj : Uid) (y : RAct) (d : Nat) (e : OAct) (ps prs rss cs : Sl) : Prop where
  keep : Keep NoB wA wx
  row : wx.heap[d]? = some (.cells #[.string kj.1, .string kj.2, .slice ps.1 ps.2.1 ps.2.2, .bool e.app.isSome, .slice prs.1 prs.2.1 prs.2.2, .slice rss.1 rss.2.1 rss.2.2, .slice cs.1 cs.2.1 cs.2.2] 48 (0, 0))
  act : OActIs wx (fun i => i < wA.heap.size ∨ i = d) e ps prs rss cs
  mean : MeantAct y e
theorem cells7 {w : World} {b : Nat} {a0 a1 a2 a3 a4 a5 a6 : Value} {T : TypeId} (h : w.heap[b]? = some (.cells #[a0, a1, a2, a3, a4, a5, a6] T (0, 0))) :
    (w.cell? ⟨b, 0, none⟩ = some a0 ∧ w.cell? ⟨b, 1, none⟩ = some a1 ∧ w.cell? ⟨b, 2, none⟩ = some a2 ∧ w.cell? ⟨b, 3, none⟩ = some a3 ∧ w.cell? ⟨b, 4, none⟩ = some a4 ∧ w.cell? ⟨b, 5, none⟩ = some a5 ∧ w.cell? ⟨b, 6, none⟩ = some a6) ∧
    w.frozen? ⟨b, 0, none⟩ = false ∧ w.frozen? ⟨b, 1, none⟩ = false ∧ w.frozen? ⟨b, 2, none⟩ = false ∧ w.frozen? ⟨b, 3, none⟩ = false ∧ w.frozen? ⟨b, 4, none⟩ = false ∧ w.frozen? ⟨b, 5, none⟩ = false ∧ w.frozen? ⟨b, 6, none⟩ = false :=
  ⟨⟨by rw [cell_cells h]; rfl, by rw [cell_cells h]; rfl, by rw [cell_cells h]; rfl, by rw [cell_cells h]; rfl, by rw [cell_cells h]; rfl, by rw [cell_cells h]; rfl, by rw [cell_cells h]; rfl⟩, frozen_cells h 0, frozen_cells h 1, frozen_cells h 2, frozen_cells h 3, frozen_cells h 4, frozen_cells h 5, frozen_cells h 6⟩
theorem renum_f2 (a b c : Value) (w : World) : (Instr.field 91 (.agg #[a, b, c]) 2).run Tryz.prog w = .ok c w := by kernel_rfl

set_option maxRecDepth 100000 in
set_option maxHeartbeats 16000000 in
theorem implResolve_c (w0 : World) (M : Nat → Prop) (l : List ISp) (D : Str → SpD) (so : Option Addr) (c : Nat) (h : IAll w0 M l D so) (fuel : Nat) (ok : ResOk l D fuel) (w : World) (k0 : Keep NoB w0 w) :
    Calls Tryz.prog 6 #[.slice so l.length c] w (ImplPost l D fuel w) := by
  have HO := Lib.hid (schemaOf_c w0 M l D so c h _ (k0.then (Keep.alloc w (.cells #[.slice none 0 0, .slice none 0 0, .slice none 0 0] 39) NoB)))
  have hbR := (MapKept.heap_alloc w (.cells #[.slice none 0 0, .slice none 0 0, .slice none 0 0] 39)).1
  obtain ⟨iU, hiU, hzU, hsU, hbU⟩ := info_parts infoIEnt
  have HU := Lib.hid (And.intro hiU (And.intro hzU (And.intro hsU hbU)))
  obtain ⟨iN, hiN, hzN, hsN, hbN⟩ := info_parts infoIEnum
  have HUN := Lib.hid (And.intro hiN (And.intro hzN (And.intro hsN hbN)))
  obtain ⟨iA, hiA, hzA, hsA, hbA⟩ := info_parts infoIAct
  have HUA := Lib.hid (And.intro hiA (And.intro hzA (And.intro hsA hbA)))
  obtain ⟨iD, hiD, hzD, hsD, hbD⟩ := info_parts infoIUID
  have HUD := Lib.hid (And.intro hiD (And.intro hzD (And.intro hsD hbD)))
  obtain ⟨iS, hiS, hzS, hsS, hbS⟩ := info_parts infoStr9
  have HUS := Lib.hid (And.intro hiS (And.intro hzS (And.intro hsS hbS)))
  clear hiU hzU hsU hbU hiN hzN hsN hbN hiS hzS hsS hbS hiA hzA hsA hbA hiD hzD hsD hbD
  have HA := Lib.hid (And.intro ok hbR)
  clear h k0 ok hbR
  obtain ⟨n, hn⟩ : ∃ n, n = l.length := ⟨_, rfl⟩
  rw [← hn] at HO ⊢
  clear hn
  go_enter Tryz.func6, Tryz.ntmps6
  go_wp2_with fail
  refine HO.out.mono ?_
  rintro e w1 ⟨b, b0, me, mn, ma, mc, ms, le, ln, la, lc, ls, rfl, hcb, hS, hkeys, k1⟩
  have hterm := HA.out.1.term
  have hR := schResolve_c w1 b b0 hcb me mn ma mc ms le ln la lc ls (bareSp l) D hS fuel (by rw [hkeys]; exact HA.out.1.com) (by rw [hkeys]; exact hterm)
  rw [hkeys] at hR
  have HR := Lib.hid hR
  have HB := Lib.hid (And.intro (k1.heap HA.out.2 (NoB.not _)) ((Keep.alloc w (.cells #[.slice none 0 0, .slice none 0 0, .slice none 0 0] 39) NoB).then k1))
  clear hcb hS hkeys k1 hterm hR
  go_wp2_with fail
  refine HR.out.mono ?_
  rintro e w2 ⟨hout, k2⟩
  have hsz2 : w.heap.size < w2.heap.size := by
    have h1 := (Array.getElem?_eq_some_iff.1 HB.out.1).1
    have h2 := k2.size
    omega
  rcases hout with ⟨⟨a, rfl⟩, hbad⟩ | ⟨hgood, V, hV, hac, hr1, hr2, c', oE, oN, oA, RE, RN, RA, rfl, hRO, hmE, hmN, hmA, hnb, hrA1, hrA2⟩
  · have hb2 := k2.heap HB.out.1 (NoB.not _)
    have z0 := frozen_cells hb2 0
    have z1 := frozen_cells hb2 1
    have z2 := frozen_cells hb2 2
    have c0 : w2.cell? ⟨w.heap.size, 0, none⟩ = some (.slice none 0 0) := by rw [cell_cells hb2]; rfl
    have c1 : w2.cell? ⟨w.heap.size, 1, none⟩ = some (.slice none 0 0) := by rw [cell_cells hb2]; rfl
    have c2 : w2.cell? ⟨w.heap.size, 2, none⟩ = some (.slice none 0 0) := by rw [cell_cells hb2]; rfl
    have HX := Lib.hid (And.intro hbad (And.intro k2 hb2))
    clear hbad k2 hb2 hsz2
    go_wp2_with fail
    obtain ⟨hbad, k2, hb2⟩ := HX.out
    obtain ⟨wz, hwz, ks, hz, q0, q1, q2⟩ := set3 _ _ _ (.slice none 0 0) (.slice none 0 0) (.slice none 0 0) hb2
    rw [← hwz]
    refine bodyPost_ret (v := .tuple #[.agg #[.slice none 0 0, .slice none 0 0, .slice none 0 0], .bool false, .bool false]) ?_ rfl (.inl ⟨rfl, hbad, (HB.out.2.then k2).trans ks (fun _ _ h => h) (fun i hi h => by omega)⟩)
    simp [results, Tryz.results6, go_sem, q0, q1, q2, Result.andThen]
  · have hb2 := k2.heap HB.out.1 (NoB.not _)
    obtain ⟨lvE, hkE, hmrE⟩ := hRO.ents
    obtain ⟨lvN, hkN, hmrN⟩ := hRO.enums
    obtain ⟨lvA, hkA, hmrA⟩ := hRO.acts
    obtain ⟨nsA, hnA1, hnA2⟩ := HA.out.1.few
    have hAL : RA.length ≤ 1000000 := by
      have := length_le_of_subset hmrA.nodup (b := nsA) (fun x hx => by obtain ⟨p, hp, rfl⟩ := List.mem_map.1 hx; exact hnA2 V hV hac p.1 p.2 (hmA.made.back _ _ (kget_mem hmrA.nodup hp)))
      rw [List.length_map] at this; omega
    have g1 := hRO.c1
    have g2 := hRO.c2
    have g3 := hRO.c3
    obtain ⟨nsE, hnE1, hnE2, hnE3⟩ := HA.out.1.names
    obtain ⟨nsN, hnN1, hnN2, hnN3⟩ := HA.out.1.enums
    have hno : ∀ (i : Nat) (s : Str), (#[Value.slice none 0 0, Value.slice none 0 0, Value.slice none 0 0] : Array Value)[i]? ≠ some (Value.string s) := by
      intro i s h
      match i with
      | 0 => simp at h
      | 1 => simp at h
      | 2 => simp at h
      | i + 3 => simp at h
    have hmrE' := hmrE.mono (R' := REntIs w2 (fun i => NoB i ∨ i = w.heap.size)) fun _ _ _ _ q => q.apart hb2 hno
    have hmrN' := hmrN.mono (R' := REnumIs w2 (fun i => NoB i ∨ i = w.heap.size)) fun _ _ _ _ q => q.apart hb2 hno
    have hneE := hkE.ne_cells hb2
    have hneN := hkN.ne_cells hb2
    have hneA := hkA.ne_cells hb2
    have hmrA' := hmrA.mono (R' := RActIs w2 (fun i => NoB i ∨ i = w.heap.size)) fun _ _ _ _ q => q.apart (by decide) hb2 hno
    have hneC : c' ≠ w.heap.size := by
      rintro rfl
      rw [cell_cells hb2] at g1
      simp at g1
    have hEin : ∀ p ∈ RE, p.1 ∈ nsE := fun p hp => hnE3 V hV hac p.1 p.2 (hmE.back _ _ (kget_mem hmrE.nodup hp))
    have hNin : ∀ p ∈ RN, p.1 ∈ nsN := fun p hp => (hnN3 p.1 p.2 (hmN.back _ _ (kget_mem hmrN.nodup hp))).1
    have hEL : RE.length ≤ 1000000 := by
      have := length_le_of_subset hmrE.nodup (b := nsE) (fun x hx => by obtain ⟨p, hp, rfl⟩ := List.mem_map.1 hx; exact hEin p hp)
      rw [List.length_map] at this; omega
    have hNL : RN.length ≤ 1000000 := by
      have := length_le_of_subset hmrN.nodup (b := nsN) (fun x hx => by obtain ⟨p, hp, rfl⟩ := List.mem_map.1 hx; exact hNin p hp)
      rw [List.length_map] at this; omega
    have hkeysE := keysEnt_c w2 (some oE)
    have hsortE := sortedEnt_c w2 (some oE) lvE hkE (by rw [hmrE.len]; omega) (fun p hp => by
      obtain ⟨x, hx, _⟩ := (hmrE.back hkE.nodup).1 p.1 p.2 hp
      exact hnE2 _ (hEin _ hx))
    have HI := Lib.hid (And.intro hmrE' (And.intro hmrN' (And.intro hneE (And.intro hneN (And.intro hneA hneC)))))
    have HACT := Lib.hid (And.intro hkA (And.intro hmrA' (And.intro hmrA (And.intro hAL (And.intro hmA (And.intro hnb (And.intro hrA1 hrA2)))))))
    clear hmrE' hmrN' hneE hneN hneA hneC hno hkA hmrA' hmrA hAL hmA hnb hrA1 hrA2 hnA1 hnA2
    have HE := Lib.hid (And.intro hkE (And.intro hmrE (And.intro hEL (And.intro hkeysE (And.intro hsortE hmE)))))
    have HN := Lib.hid (And.intro hkN (And.intro hmrN (And.intro hNL (And.intro hmN (And.intro hNin hnN2)))))
    have HAC := Lib.hid hac
    have HG := Lib.hid (And.intro hgood (And.intro hV (And.intro hr1 (And.intro hr2 hnN3))))
    have HP := Lib.hid (And.intro k2 (And.intro hb2 (And.intro g2 g3)))
    clear hgood hV hac hr1 hr2 hRO hmE hmN k2 hb2 hkE hmrE hkN hmrN hnE1 hnE2 hnE3 hnN1 hnN2 hnN3 hEin hNin hEL hNL hkeysE hsortE g2 g3
    go_wp2_with fail
    refine HE.out.2.2.2.1.mono ?_
    rintro e wk ⟨rfl, hwk⟩
    subst hwk
    go_wp2_with fail
    refine HE.out.2.2.2.2.1.mono ?_
    rintro e w3 ⟨ks, o, cc, rfl, hp, hpw, hat, k3⟩
    have G1 := Lib.hid g1
    clear g1
    obtain ⟨m, hkn⟩ : ∃ m, m = ks.length := ⟨_, rfl⟩
    rw [← hkn]
    have hmL : m ≤ 1000000 := by
      have h1 := (hp.trans (HE.out.2.1.back HE.out.1.nodup).2).length_eq
      have h2 := HE.out.2.2.1
      rw [List.length_map] at h1; omega
    have HC := Lib.hid (And.intro hkn (And.intro hp (And.intro hpw (And.intro hat k3))))
    clear hkn hp hpw hat k3
    go_wp2_with fail
    go_loopg [47] m (fun g i wr => ∃ (j : Nat) (lE : List (Str × IEnt)) (sl : Value), j + g = m ∧ i = .int .i64 j ∧ EntL w2 w3 wr w.heap.size RE ks j lE sl)
    case atStart => exact ⟨0, [], _, by omega, rfl, Keep.refl _ _, HC.out.2.2.2.2.heap HP.out.2.1 (NoB.not _), RowIs.nil _ _ _ _ _, rfl, fun _ h => by simp at h⟩
    case round =>
      obtain ⟨j, lE, sl, hj, rfl, hl⟩ := hrel
      have hlen : lE.length = j := by
        have h1 := congrArg List.length hl.keys
        have h2 := HC.out.1
        rw [List.length_map, List.length_take] at h1; omega
      have HL := Lib.hid (And.intro hl hlen)
      clear hl hlen
      by_cases hlt : j < m
      · obtain ⟨hkn, hp, hpw, hat, k3⟩ := HC.out
        obtain ⟨kj, hkj⟩ : ∃ kj, ks[j]? = some kj := ⟨_, List.getElem?_eq_getElem (by omega)⟩
        obtain ⟨v, hv⟩ : ∃ v, (kj, v) ∈ lvE := by
          have h1 : kj ∈ lvE.map (·.1) := hp.mem_iff.1 (List.mem_of_getElem? hkj)
          obtain ⟨⟨k, v⟩, h2, rfl⟩ := List.mem_map.1 h1
          exact ⟨v, h2⟩
        obtain ⟨y, hy, hyv⟩ := (HI.out.1.back HE.out.1.nodup).1 kj v hv
        have hyok : REntOk y := HA.out.1.ents V HG.out.2.1 HAC.out kj y (HE.out.2.2.2.2.2.back _ _ (kget_mem HE.out.2.1.nodup hy))
        obtain ⟨an, pv, sv, tv, rfl, hpar, hsh, htg⟩ := hyv
        have kr : Keep (· = w.heap.size) w2 wr := k3.first HL.out.1.keep
        have hcell : wr.cell? ⟨c', 1, none⟩ = some (.map (some oE)) := kr.cell G1.out HI.out.2.2.2.2.2
        have hm := HE.out.1.keep kr HI.out.2.2.1
        have hparR := StrsAt.keep.k (M' := (· = w.heap.size)) kr (fun _ _ h => .inr h) (fun _ _ h => .inr h) hpar
        have hshR := RShape.keep.k (M' := (· = w.heap.size)) kr (fun _ _ h => .inr h) (fun _ _ h => .inr h) hsh
        have htgR := RTags.keep.k (M' := (· = w.heap.size)) kr (fun _ _ h => .inr h) (fun _ _ h => .inr h) htg
        obtain ⟨po, pc, rfl, hpc⟩ := hparR
        have hparR : StrsAt wr (· = w.heap.size) y.parents (.slice po y.parents.length pc) := ⟨po, pc, rfl, hpc⟩
        clear hpc hpar hsh htg
        obtain ⟨pl, hpl⟩ : ∃ pl, pl = y.parents.length := ⟨_, rfl⟩
        rw [← hpl] at hparR hv
        obtain ⟨mb, rfl⟩ : ∃ mb, sv = .map mb := by
          cases hq : y.shape with
          | none => rw [hq] at hshR; exact ⟨_, hshR⟩
          | some t => rw [hq] at hshR; obtain ⟨b, e, _⟩ := hshR; exact ⟨_, e⟩
        have hlk : (Instr.lookup 71 (.map (some oE)) (.string kj) false).run Tryz.prog wr = .ok (.agg #[.string y.name, .map an, .slice po pl pc, .map mb, tv]) wr := by
          rw [KMap.lookup hm (strKey Tryz.underlying67) Tryz.underlying71 (zeroREnt wr) kj false, kget_mem HE.out.1.nodup hv]; rfl
        have htv : (tv = .nilIface ∧ y.tags = none) ∨ ∃ T x t, tv = .iface T x ∧ y.tags = some t := by
          cases hq : y.tags with
          | none => rw [hq] at htgR; exact .inl ⟨htgR, rfl⟩
          | some t => rw [hq] at htgR; obtain ⟨T, x, e⟩ := RTyIs.iface htgR; exact .inr ⟨T, x, t, e, rfl⟩
        have hone : tv.oneCell' = true := by rcases htv with ⟨rfl, _⟩ | ⟨T, x, t, rfl, _⟩ <;> rfl
        obtain ⟨ov', cc2, he, hcells⟩ := hat
        simp only [Value.slice.injEq] at he
        obtain ⟨rfl, hx, rfl⟩ := he
        clear hx
        rcases hcells with h0 | ⟨bv, offv, rfl, hMv, hcl⟩
        · omega
        have hcv := HL.out.1.keep.cell ((hcl j (by omega)).2 0 _ rfl) (by show ¬ (bv = _); omega)
        simp only [Nat.mul_one, Nat.add_zero] at hcv
        have hkj' : ks.getD j ⟨#[]⟩ = kj := by rw [List.getD_eq_getElem?_getD, hkj]; rfl
        rw [hkj'] at hcv
        obtain ⟨wA, hwA⟩ : ∃ wA, wA = wr.alloc (.cells #[.string y.name, .map an, .slice po pl pc, .map mb, tv] 79) := ⟨_, rfl⟩
        have kA : Keep NoB wr wA := hwA ▸ Keep.alloc _ _ _
        have hbA : wA.heap[wr.heap.size]? = some (.cells #[.string y.name, .map an, .slice po pl pc, .map mb, tv] 79 (0, 0)) := hwA ▸ (MapKept.heap_alloc wr _).1
        have hsA : wA.heap.size = wr.heap.size + 1 := by rw [hwA, World.size_alloc]
        have HQ := Lib.hid (And.intro hparR (And.intro hshR (And.intro htgR (And.intro hpl (And.intro htv (And.intro hyok (And.intro hy (And.intro hkj (And.intro kr hwA)))))))))
        have HW := Lib.hid (And.intro kA (And.intro hbA hsA))
        have HO1 := Lib.hid hone
        clear hkn hp hpw k3 hkj hv hy hyok kr hm hparR hshR htgR hpl htv hMv hcl hkj' hwA kA hbA hsA
        obtain ⟨wo, rfl⟩ : ∃ wo : World, wo = wr := ⟨_, rfl⟩
        have hst := fun w a m => run_store Tryz.prog w a tv m hone
        go_upto_region 11 with fail
        clear hst
        have hwA' := HQ.out.2.2.2.2.2.2.2.2.2
        rw [← hwA']
        clear hwA' hlk hcell hcv hone
        obtain ⟨hparR, hshR, htgR, hpl, htv, hyok, hy, hkj, kr, hwA⟩ := HQ.out
        obtain ⟨kA, hbA, hsA⟩ := HW.out
        have q2 : wA.drew.cell? ⟨wo.heap.size, 2, none⟩ = some (.slice po pl pc) := by rw [World.cell?_drew, cell_cells hbA]; rfl
        have q3 : wA.drew.cell? ⟨wo.heap.size, 3, none⟩ = some (.map mb) := by rw [World.cell?_drew, cell_cells hbA]; rfl
        have q4 : wA.drew.cell? ⟨wo.heap.size, 4, none⟩ = some tv := by rw [World.cell?_drew, cell_cells hbA]; rfl
        have HNm := Lib.hid (show ∀ x, Keep NoB wA x → Calls Tryz.prog 15 #[.slice po pl pc] x (fun e w' => ∃ o n c', e = .returned (.slice o n c') ∧ StrsAt w' (· < x.heap.size) y.parents (.slice o n c') ∧ Keep NoB x w') from fun x kx => by
          have h1 := StrsAt.keep.k (M' := (· = w.heap.size)) (kA.then kx) (fun _ _ h => h.elim) (fun _ _ h => h) hparR
          rw [hpl] at h1 ⊢
          exact meantNames_c x _ _ _ _ hyok.par h1)
        obtain ⟨mb', hmb, l', hl', hAt⟩ := meantShape_c (RShape.keep.k (M' := (· = w.heap.size)) kA (fun _ _ h => h.elim) (fun _ _ h => h) hshR) hyok.shape
        cases hmb
        have HAt := Lib.hid (And.intro hAt hl')
        have HQ4 := Lib.hid (show ∀ x, Keep NoB wA x → x.cell? ⟨wo.heap.size, 2, none⟩ = some (.slice po pl pc) ∧ x.cell? ⟨wo.heap.size, 3, none⟩ = some (.map mb) ∧ x.cell? ⟨wo.heap.size, 4, none⟩ = some tv from fun x kx => by
          have hbx := kx.heap hbA (NoB.not _)
          exact ⟨by rw [cell_cells hbx]; rfl, by rw [cell_cells hbx]; rfl, by rw [cell_cells hbx]; rfl⟩)
        clear hAt hl' hparR hshR htgR hpl hyok hy hkj kr hwA kA hbA hsA
        obtain ⟨tb, htb⟩ : ∃ tb, tb = y.tags.isSome := ⟨_, rfl⟩
        have hgd : ∀ x, (eqGuard .neq 77 (.tmp 65) (.const .nilIface) tv .nilIface).run Tryz.prog x = .ok () x := fun x => by
          rcases htv with ⟨rfl, _⟩ | ⟨T, z, t, rfl, _⟩ <;> go_simp
        have hnq : ∀ x, (binOp .neq 77 tv .nilIface).run Tryz.prog x = .ok (.bool tb) x := fun x => by
          rcases htv with ⟨rfl, e⟩ | ⟨T, z, t, rfl, e⟩
          · rw [htb, e]; go_simp
          · rw [htb, e]; go_simp
        have HT := Lib.hid (And.intro htv htb)
        clear htv htb
        go_cut [12, 47] from 47 to 80 (fun s12 s47 wx => s47 = .int .i64 j ∧ ∃ (d : Nat) (ps : Sl) (lA : List (Str × ATy × Bool)) (ao : Option Addr) (ac : Nat), s12 = .pointer (some ⟨d, 0, none⟩) ∧ Told11 wA wx kj tb y d ps lA ao ac)
        case first =>
          have hKA : Keep NoB wA wA.drew := Keep.drew _ _
          go_region_held3 (fun x => Keep NoB wA x ∧ x.cell? ⟨wo.heap.size, 2, none⟩ = some (.slice po pl pc) ∧ x.cell? ⟨wo.heap.size, 3, none⟩ = some (.map mb) ∧ x.cell? ⟨wo.heap.size, 4, none⟩ = some tv)
            (with_reducible (first
              | (refine (fun hh => ⟨hh, HQ4.out _ hh⟩) ?_; (repeat (refine keepLate ?_ (by first | exact Nat.le_refl _ | exact kw4.size))); exact kw5)
              | exact ⟨(kw5.then (Keep.alloc _ _ _)), HQ4.out _ (kw5.then (Keep.alloc _ _ _))⟩
              | exact ⟨(kw4.then (Keep.alloc _ _ _)), HQ4.out _ (kw4.then (Keep.alloc _ _ _))⟩
              | exact ⟨(hKA.then (Keep.alloc _ _ _)), HQ4.out _ (hKA.then (Keep.alloc _ _ _))⟩
              | exact ⟨kw4, HQ4.out _ kw4⟩
              | exact ⟨hKA, q2, q3, q4⟩
              | assumption))
            ((first
              | (go_at_call 15
                 refine (HNm.out _ (by go_split_ands; assumption)).mono ?_
                 rintro e w4 ⟨no, nn, nc, rfl, hns, k4⟩
                 have kw4 : Keep NoB wA w4 := Keep.then (by go_split_ands; assumption) k4
                 (first | (with_reducible have hd := heap_alloc1 k4) | (with_reducible have hd := heap_alloc2 k4) | (with_reducible have hd := heap_again k4 hd) | skip)
                 (first | (have hcd := cells8 hd; obtain ⟨e0, e1, e2, e3, e4, e5, e6, e7, z0, z1, z2, z3, z4, z5, z6, z7⟩ := hcd) | skip))
              | (go_at_call 16
                 refine (HAt.out.1 _ (by go_split_ands; assumption)).mono ?_
                 rintro e w5 ⟨lA, ao, ac, hmt, rfl, hat5, k5⟩
                 have kw5 : Keep NoB wA w5 := Keep.then (by go_split_ands; assumption) k5
                 (first | (with_reducible have hd := heap_alloc1 k5) | (with_reducible have hd := heap_alloc2 k5) | (with_reducible have hd := heap_again k5 hd) | skip)
                 (first | (have hcd := cells8 hd; obtain ⟨e0, e1, e2, e3, e4, e5, e6, e7, z0, z1, z2, z3, z4, z5, z6, z7⟩ := hcd) | skip))))
          · have HZ := Lib.hid (And.intro hns (And.intro k4 (And.intro hmt (And.intro hat5 (And.intro k5 (And.intro kw5 trivial))))))
            clear q2 q3 q4 hKA hns k4 hmt hat5 k5 kw5 kw4
            go_wp2_with fail
            go_meet
            case rel =>
              obtain ⟨hns, k4, hmt, hat5, k5, kw5, hx⟩ := HZ.out
              have s4 := k4.size
              have s5 := k5.size
              (try simp at s4); (try simp at s5)
              refine ⟨rfl, _, (no, nn, nc), lA, ao, ac, rfl, told_late (y := y) (ps := (no, nn, nc)) kw5 (StrsAt.keep.k k5 (fun _ _ h => h.elim) (fun _ _ h => h) hns) (fun s e => (hat5 s e).keep (Keep.refl NoB _) (fun _ _ h => h.elim) (fun i hi h => ?_)) ⟨_, HAt.out.2, hmt⟩⟩
              exact Nat.lt_of_lt_of_le h s4
          · have HZ := Lib.hid (And.intro hns (And.intro k4 (And.intro hmt (And.intro hat5 (And.intro k5 (And.intro kw5 (And.intro hd kw4)))))))
            clear q2 q3 q4 hKA hns k4 hmt hat5 k5 kw5 kw4 hd e0 e1 e2 e3 e4 e5 e6 e7 z0 z1 z2 z3 z4 z5 z6 z7
            go_wp2_with fail
            go_meet
            case rel =>
              obtain ⟨hns, k4, hmt, hat5, k5, kw5, hx⟩ := HZ.out
              have s4 := k4.size
              have s5 := k5.size
              (try simp at s4); (try simp at s5)
              have s6 := hx.2.size
              refine ⟨rfl, _, (no, nn, nc), lA, ao, ac, rfl, told_early (y := y) (ps := (no, nn, nc)) hx.1 s6 kw5 (StrsAt.keep.k ((Keep.alloc _ _ NoB).then k5) (fun _ _ h => h.elim) (fun i hi h => ?_) hns) (fun s e => (hat5 s e).keep (Keep.refl NoB _) (fun _ _ h => h.elim) (fun i hi h => ?_)) ⟨_, HAt.out.2, hmt⟩⟩
              · rcases h with h | h
                · exact h
                · omega
              · show i < _
                rw [World.size_alloc]
                rcases h with h | h <;> omega
          · have HZ := Lib.hid (And.intro hns (And.intro k4 (And.intro hmt (And.intro hat5 (And.intro k5 (And.intro kw5 hd))))))
            clear q2 q3 q4 hKA hns k4 hmt hat5 k5 kw5 kw4 hd e0 e1 e2 e3 e4 e5 e6 e7 z0 z1 z2 z3 z4 z5 z6 z7
            go_wp2_with fail
            go_meet
            case rel =>
              obtain ⟨hns, k4, hmt, hat5, k5, kw5, hx⟩ := HZ.out
              have s4 := k4.size
              have s5 := k5.size
              (try simp at s4); (try simp at s5)
              refine ⟨rfl, _, (no, nn, nc), lA, ao, ac, rfl, told_early (y := y) (ps := (no, nn, nc)) hx (Nat.le_refl _) kw5 (StrsAt.keep.k k5 (fun _ _ h => h.elim) (fun i hi h => ?_) hns) (fun s e => (hat5 s e).keep (Keep.refl NoB _) (fun _ _ h => h.elim) (fun i hi h => ?_)) ⟨_, HAt.out.2, hmt⟩⟩
              · show i < _
                simp
                rcases h with h | h <;> omega
              · show i < _
                rcases h with h | h <;> omega
        case rest =>
          obtain ⟨rfl, d, ps, lA, ao, ac, rfl, hT⟩ := hcut
          have f3 : wc.cell? ⟨d, 3, none⟩ = some (.bool tb) := by rw [cell_cells hT.row]; rfl
          have HD := Lib.hid hT
          clear hT hgd hnq q2 q3 q4
          go_upto_if 69 with fail
          go_cut [47] from 47 to 80 (fun s47 wx => s47 = .int .i64 j ∧ ∃ (e : IEnt) (ats : Sl) (k : Int) (s : Str) (el al : Sl), Told12 wA wx kj y d e ps ats k s el al)
          case first =>
            clear f3
            rcases HT.out.1 with ⟨hn1, hn2⟩ | ⟨T, x, t, hn1, hn2⟩
            · have htb : tb = false := by rw [HT.out.2, hn2]; rfl
              subst htb
              clear hn1
              have HN2 := Lib.hid hn2
              clear hn2
              go_wp2_with fail
              go_meet
              case rel =>
                have hT := HD.out
                exact ⟨rfl, ⟨y.parents, lA, none⟩, (ao, lA.length, ac), 0, ⟨#[]⟩, (none, 0, 0), (none, 0, 0), hT.keep, hT.row, ⟨hT.par, hT.att, fun t h => by cases h⟩, rfl, hT.mean, by rw [HN2.out]; trivial⟩
            · have htb : tb = true := by rw [HT.out.2, hn2]; rfl
              subst htb
              subst hn1
              have hT := HD.out
              have htg := HQ.out.2.2.1
              rw [hn2] at htg
              have HM := Lib.hid (meantType_c htg (HQ.out.2.2.2.2.2.1.tags t hn2) wc (HW.out.1.then hT.keep))
              have g4 := (HQ4.out wc hT.keep).2.2
              have HN2 := Lib.hid hn2
              clear hn2 hT htg
              go_wp2_with fail
              refine HM.out.mono ?_
              rintro e w6 ⟨a, k, s, el, al, hmt, rfl, hty, k6⟩
              have hb6 := k6.heap HD.out.row (NoB.not _)
              obtain ⟨_, _, _, _, e4, e5, e6, e7, _, _, _, _, z4, z5, z6, z7⟩ := cells8 hb6
              have HZ := Lib.hid (And.intro hmt (And.intro hty (And.intro k6 hb6)))
              clear hmt hty k6 hb6 g4
              go_wp2_with fail
              go_meet
              case rel =>
                obtain ⟨hmt, hty, k6, hb6⟩ := HZ.out
                have hT := HD.out
                obtain ⟨wz, hwz, ks, hz⟩ := set47 w6 d 53 (.int .i64 k) (.string s) (.slice el.1 el.2.1 el.2.2) (.slice al.1 al.2.1 al.2.2) hb6
                rw [← hwz]
                have hd : d < wc.heap.size := (Array.getElem?_eq_some_iff.1 hT.row).1
                refine ⟨rfl, ⟨y.parents, lA, some a⟩, (ao, lA.length, ac), k, s, el, al, (hT.keep.then k6).trans ks (fun _ _ h => h) (fun i hi h => by have := hT.le; omega), hz, ⟨?_, fun s e => ?_, fun t' ht' => ?_⟩, rfl, hT.mean, by rw [HN2.out]; exact hmt⟩
                · exact StrsAt.keep.k ks (fun _ _ h => .inr h) (fun _ _ h => h) (StrsAt.keep.k (M' := fun i => i < wA.heap.size ∨ i = d) k6 (fun _ _ h => h.elim) (fun _ _ h => h) hT.par)
                · exact ((hT.att s e).keep (M' := fun i => i < wA.heap.size ∨ i = d) k6 (fun _ _ h => h.elim) (fun _ _ h => h)).keep ks (fun _ _ h => .inr h) (fun _ _ h => h)
                · cases ht'
                  have h9 := hT.keep.size
                  exact (hty.keep (M' := fun i => i < wA.heap.size ∨ i = d) (Keep.refl NoB _) (fun _ _ h => h.elim) (fun i hi h => by show i < _; rcases h with h | h <;> omega)).keep ks (fun _ _ h => .inr h) (fun _ _ h => h)
          case rest =>
            obtain ⟨rfl, e, ats, k, s, el, al, hT⟩ := hcut
            obtain ⟨so', sc', rfl⟩ := HL.out.1.row.shape
            have kwc : Keep NoB wo wc := HW.out.1.then hT.keep
            have hbc := kwc.heap HL.out.1.res (NoB.not _)
            have r0 : wc.cell? ⟨w.heap.size, 0, none⟩ = some (.slice so' lE.length sc') := by rw [cell_cells hbc]; rfl
            obtain ⟨e0, e1, e2, e3, e4, e5, e6, e7, _, _, _, _, _, _, _, _⟩ := cells8 hT.row
            obtain ⟨es, hes⟩ : ∃ es, es = e.tags.isSome := ⟨_, rfl⟩
            rw [← hes] at e3
            obtain ⟨w7, hw7⟩ : ∃ w7, w7 = wc := ⟨_, rfl⟩
            have HT2 := Lib.hid (And.intro hT (And.intro kwc (And.intro hbc hes)))
            clear hT kwc hbc hes hw7 w7 f3
            go_wp2_with (at_builtin
                         obtain ⟨xs, hown, hpush⟩ := ((HL.out.1.row.keep0 EntC.keeps HT2.out.2.1).keep0 EntC.keeps (Keep.alloc wc (.cells #[.string kj, .slice ps.1 ps.2.1 ps.2.2, .slice ats.1 ats.2.1 ats.2.2, .bool es, .int .i64 k, .string s, .slice el.1 el.2.1 el.2.2, .slice al.1 al.2.1 al.2.2] 53) NoB)).opened EntC.keeps
                         refine wpList_append_lies _ rfl _ _ 35 rfl w3.heap.size 53 iU _ 8 144 Tryz.underlying35 HU.out.1 HU.out.2.1 HU.out.2.2.1 HU.out.2.2.2 rfl (by omega) (.slice so' lE.length sc') lE.length xs rfl hown ⟨wc.heap.size, 0, none⟩ 1 1 [.string kj, .slice ps.1 ps.2.1 ps.2.2, .slice ats.1 ats.2.1 ats.2.2, .bool es, .int .i64 k, .string s, .slice el.1 el.2.1 el.2.2, .slice al.1 al.2.1 al.2.2] rfl rfl
                           (World.news_of_block (cs := #[.string kj, .slice ps.1 ps.2.1 ps.2.2, .slice ats.1 ats.2.1 ats.2.2, .bool es, .int .i64 k, .string s, .slice el.1 el.2.1 el.2.2, .slice al.1 al.2.1 al.2.2]) (t := 53) (fr := (0, 0)) (heap_alloc_new wc _)) (by simp [Value.oneCell']) (by omega) (by rw [HL.out.2]; unfold maxLen; omega) (by rw [HL.out.2]; omega) ?c5 (wc.heap.size + 1) (by simp) ?_
                         case c5 =>
                           have h1 := HL.out.1.keep.size
                           have h2 := HT2.out.2.1.size
                           rw [World.size_alloc]; omega
                         intro gg cap w8 hown8 hgrow hgat hglt
                         obtain ⟨hr8, hk8⟩ := hpush gg cap w8 (kj, e) [.string kj, .slice ps.1 ps.2.1 ps.2.2, .slice ats.1 ats.2.1 ats.2.2, .bool es, .int .i64 k, .string s, .slice el.1 el.2.1 el.2.2, .slice al.1 al.2.1 al.2.2] rfl
                           ⟨ps, ats, k, s, el, al, by rw [HT2.out.2.2.2], HT2.out.1.ent.keep (Keep.alloc _ _ NoB) (fun _ _ h => h.elim) (fun i hi h => by
                             have h1 := HL.out.1.keep.size
                             have h2 := HW.out.2.2
                             rcases h with h | h
                             · have := (HL.out.1.row.lt i h).2; exact .inl (by omega)
                             · exact .inl (by omega))⟩ hown8 hgrow (by simpa using hgat)
                         have hne : ¬ OB (.slice so' lE.length sc') w.heap.size := fun h => by
                           have h1 := (HL.out.1.row.lt _ h).1
                           have h2 := HC.out.2.2.2.2.size
                           omega
                         have hb8 := hk8.heap ((Keep.alloc wc (.cells #[.string kj, .slice ps.1 ps.2.1 ps.2.2, .slice ats.1 ats.2.1 ats.2.2, .bool es, .int .i64 k, .string s, .slice el.1 el.2.1 el.2.2, .slice al.1 al.2.1 al.2.2] 53) NoB).heap HT2.out.2.2.1 (NoB.not _)) hne
                         have r8 : w8.cell? ⟨w.heap.size, 0, none⟩ = some (.slice so' lE.length sc') := by rw [cell_cells hb8]; rfl
                         have z8 := frozen_cells hb8 0
                         have HX := Lib.hid (And.intro hr8 (And.intro hk8 hb8))
                         clear hr8 hk8 hb8 hown8 hgrow hgat hglt hown hpush hne e0 e1 e2 e3 e4 e5 e6 e7 r0)
            go_roundg (gk - 1)
            case measure => omega
            case rel =>
              obtain ⟨hr8, hk8, hb8⟩ := HX.out
              have hkeys := HL.out.1.keys
              have ks := Keep.setCell (M := (· = w.heap.size)) w8 ⟨w.heap.size, 0, none⟩ (.slice (some ⟨gg, 0, none⟩) (lE.length + 1) cap) (fun _ => rfl)
              refine ⟨j + 1, lE ++ [(kj, e)], _, by omega, by go_num, ?_, setCell_cells hb8 0 _, ?_, ?_, fun p hp => ?_⟩
              · exact ((HL.out.1.keep.then HT2.out.2.1).then (Keep.alloc _ _ _)).trans (hk8.trans ks (M'' := fun i => i = w.heap.size ∨ OB (.slice so' lE.length sc') i) (fun _ _ h => .inr h) (fun _ _ h => .inl h)) (fun _ _ h => h) (fun i hi h => by
                  rcases h with h | h
                  · exact h
                  · have := (HL.out.1.row.lt i h).1; omega)
              · exact hr8.keep EntC.keeps ks (fun i hi => by
                  have h2 := HC.out.2.2.2.2.size
                  have : i = w.heap.size := hi
                  omega)
              · obtain ⟨hj1, hj2⟩ := List.getElem?_eq_some_iff.1 HQ.out.2.2.2.2.2.2.2.1
                rw [List.map_append, hkeys, List.take_succ_eq_append_getElem hj1, hj2]; rfl
              · rcases List.mem_append.1 hp with hp | hp
                · exact HL.out.1.done p hp
                · simp only [List.mem_singleton] at hp
                  subst hp
                  exact ⟨y, kget_mem HE.out.2.1.nodup HQ.out.2.2.2.2.2.2.1, HT2.out.1.mean⟩
      · have hjm : j = m := by omega
        subst hjm
        clear hlt hj
        have kr : Keep (· = w.heap.size) w2 wr := HC.out.2.2.2.2.first HL.out.1.keep
        have g2 := kr.cell HP.out.2.2.1 HI.out.2.2.2.2.2
        have hkeysN := keysEnum_c wr (some oN)
        have hsortN := sortedEnum_c wr (some oN) lvN (HN.out.1.keep kr HI.out.2.2.2.1) (by rw [HN.out.2.1.len]; have := HN.out.2.2.1; omega) (fun p hp => by
          obtain ⟨x, hx, _⟩ := (HN.out.2.1.back HN.out.1.nodup).1 p.1 p.2 hp
          exact HN.out.2.2.2.2.2 _ (HN.out.2.2.2.2.1 _ hx))
        have HS2 := Lib.hid (And.intro hkeysN hsortN)
        have HK2 := Lib.hid kr
        clear kr hkeysN hsortN
        obtain ⟨w4, rfl⟩ : ∃ w4 : World, w4 = wr := ⟨_, rfl⟩
        go_wp2_with fail
        refine HS2.out.1.mono ?_
        rintro e wk ⟨rfl, hwk⟩
        subst hwk
        go_wp2_with fail
        refine HS2.out.2.mono ?_
        rintro e w5 ⟨ks', o', cc', rfl, hp', hpw', hat', k5⟩
        clear g2
        obtain ⟨m', hkn'⟩ : ∃ m', m' = ks'.length := ⟨_, rfl⟩
        rw [← hkn']
        have hmL' : m' ≤ 1000000 := by
          have h1 := (hp'.trans (HN.out.2.1.back HN.out.1.nodup).2).length_eq
          have h2 := HN.out.2.2.1
          rw [List.length_map] at h1; omega
        have HC2 := Lib.hid (And.intro hkn' (And.intro hp' (And.intro hpw' (And.intro hat' k5))))
        clear hkn' hp' hpw' hat' k5
        go_wp2_with fail
        go_loopg [88] m' (fun g i wr => ∃ (j2 : Nat) (lN : List (Str × List Str)) (sl2 : Value), j2 + g = m' ∧ i = .int .i64 j2 ∧ EnumL w5 wr w.heap.size sl RN ks' j2 lN sl2)
        case atStart => exact ⟨0, [], _, by omega, rfl, Keep.refl _ _, HC2.out.2.2.2.2.heap HL.out.1.res (NoB.not _), RowIs.nil _ _ _ _ _, rfl, fun _ h => by simp at h⟩
        case round =>
          obtain ⟨j2, lN, sl2, hj2, rfl, hl2⟩ := hrel
          have hlen2 : lN.length = j2 := by
            have h1 := congrArg List.length hl2.keys
            have h2 := HC2.out.1
            rw [List.length_map, List.length_take] at h1; omega
          have HL2 := Lib.hid (And.intro hl2 hlen2)
          clear hl2 hlen2
          by_cases hlt2 : j2 < m'
          · obtain ⟨hkn', hp', hpw', hat', k5⟩ := HC2.out
            obtain ⟨kj, hkj⟩ : ∃ kj, ks'[j2]? = some kj := ⟨_, List.getElem?_eq_getElem (by omega)⟩
            obtain ⟨v, hv⟩ : ∃ v, (kj, v) ∈ lvN := by
              have h1 : kj ∈ lvN.map (·.1) := hp'.mem_iff.1 (List.mem_of_getElem? hkj)
              obtain ⟨⟨k, v⟩, h2, rfl⟩ := List.mem_map.1 h1
              exact ⟨v, h2⟩
            obtain ⟨y, hy, hyv⟩ := (HI.out.2.1.back HN.out.1.nodup).1 kj v hv
            have hyL : y.2.length ≤ 1000000 := (HG.out.2.2.2.2 kj y (HN.out.2.2.2.1.back _ _ (kget_mem HN.out.2.1.nodup hy))).2
            obtain ⟨an, sv, rfl, hvs⟩ := hyv
            have kr : Keep (· = w.heap.size) w2 wr := (HK2.out.then k5).trans HL2.out.1.keep (fun _ _ h => h) (fun _ _ h => h)
            have hvsR := SliceAt.keep (M' := (· = w.heap.size)) hvs kr (fun _ _ h => .inr h) (fun _ _ h => .inr h) (.inr (by omega))
            obtain ⟨vo, vc, rfl, hvc⟩ := hvsR
            obtain ⟨vn, hvn⟩ : ∃ vn, vn = y.2.length := ⟨_, rfl⟩
            rw [← hvn] at hvc hyL hv
            obtain ⟨w6, hw6⟩ : ∃ w6, w6 = wr.alloc (.cells #[.string kj, .slice none 0 0] 93) := ⟨_, rfl⟩
            have k6 : Keep NoB wr w6 := hw6 ▸ Keep.alloc _ _ _
            have hb6 : w6.heap[wr.heap.size]? = some (.cells #[.string kj, .slice none 0 0] 93 (0, 0)) := hw6 ▸ (MapKept.heap_alloc wr _).1
            have hs6 : w6.heap.size = wr.heap.size + 1 := by rw [hw6, World.size_alloc]
            have hcell : w6.cell? ⟨c', 2, none⟩ = some (.map (some oN)) := k6.cell (kr.cell HP.out.2.2.1 HI.out.2.2.2.2.2) (NoB.not _)
            have hlk : (Instr.lookup 81 (.map (some oN)) (.string kj) false).run Tryz.prog w6 = .ok (.agg #[.string y.1, .map an, .slice vo vn vc]) w6 := by
              rw [KMap.lookup ((HN.out.1.keep kr HI.out.2.2.2.1).keep k6 (NoB.not _)) (strKey Tryz.underlying67) Tryz.underlying81 (zeroREnum w6) kj false, kget_mem HN.out.1.nodup hv]; rfl
            obtain ⟨ov', cc2, he, hcells⟩ := hat'
            simp only [Value.slice.injEq] at he
            obtain ⟨rfl, hx, rfl⟩ := he
            clear hx
            rcases hcells with h0 | ⟨bv, offv, rfl, hMv, hcl⟩
            · omega
            have hcv := HL2.out.1.keep.cell ((hcl j2 (by omega)).2 0 _ rfl) (by
              have h1 := HL.out.1.keep.size
              have h2 := HC.out.2.2.2.2.size
              show ¬ (bv = _)
              omega)
            simp only [Nat.mul_one, Nat.add_zero] at hcv
            have hkj' : ks'.getD j2 ⟨#[]⟩ = kj := by rw [List.getD_eq_getElem?_getD, hkj]; rfl
            rw [hkj'] at hcv
            have HQ2 := Lib.hid (And.intro hvc (And.intro hvn (And.intro hy (And.intro hkj (And.intro k6 (And.intro hb6 hs6))))))
            have HW6 := Lib.hid hw6
            have hf2 := renum_f2
            rw [hw6] at hcell hlk
            clear hw6
            clear hkn' hp' hpw' k5 hkj hv hy kr hvs hvc hvn hMv hcl hkj' k6 hb6 hs6
            obtain ⟨wo, rfl⟩ : ∃ wo : World, wo = wr := ⟨_, rfl⟩
            go_wp2_with fail
            clear hcell hlk hcv hf2
            have hw6' := HW6.out
            rw [← hw6']
            clear hw6'
            go_loopg [102] vn (fun g i wx => ∃ (q : Nat) (sv : Value), q + g = vn ∧ i = .int .i64 q ∧ Keep (· = wo.heap.size) w6 wx ∧ wx.heap[wo.heap.size]? = some (.cells #[.string kj, sv] 93 (0, 0)) ∧ wx.ownsRow w6.heap.size 9 1 sv q ((y.2.take q).map Value.string))
            case atStart => exact ⟨0, _, by omega, rfl, Keep.refl _ _, HQ2.out.2.2.2.2.2.1, rfl, .inl ⟨rfl, rfl⟩⟩
            case round =>
              obtain ⟨q, sv, hq, rfl, hk, hrow, hown⟩ := hrel
              obtain ⟨so', sn', sc', rfl⟩ : ∃ o n c, sv = .slice o n c := by
                rcases hown.2 with ⟨h, _⟩ | ⟨g, cap, cur, h, _⟩ <;> exact ⟨_, _, _, h⟩
              have HR := Lib.hid (And.intro hk (And.intro hrow hown))
              clear hk hrow hown
              by_cases hltq : q < vn
              · obtain ⟨hvc, hvn, hy, hkj, k6, hb6, hs6⟩ := HQ2.out
                rcases hvc with h0 | ⟨vb, voff, rfl, hvM, hvcl⟩
                · omega
                obtain ⟨hvl, hvcells⟩ := hvcl q hltq
                have hvb : vb < wo.heap.size := block_lt_of_cell (hvcells 0 _ rfl)
                have hv2 := (hvcells.keep k6 (NoB.not _)).keep HR.out.1 (by show ¬ (vb = _); omega)
                have f0 := hv2 0 _ rfl
                rw [Nat.add_zero] at f0
                have f1 := hv2 1 _ rfl
                obtain ⟨vq, hvq⟩ : ∃ vq, vq = y.2.getD q ⟨#[]⟩ := ⟨_, rfl⟩
                rw [← hvq] at f1
                have s6 := HR.out.1.size
                obtain ⟨wx, rfl⟩ : ∃ wx : World, wx = wr := ⟨_, rfl⟩
                have r1 : wx.cell? ⟨wo.heap.size, 1, none⟩ = some (.slice so' sn' sc') := by rw [cell_cells HR.out.2.1]; rfl
                have HV := Lib.hid (And.intro hvq (And.intro hvb (And.intro hs6 hvn)))
                have hlo : wo.heap.size < wx.heap.size := by omega
                clear hvq hvn hy hkj k6 hb6 hs6 hvM hvcl hvl hvcells hv2 hvb s6
                go_wp2_with (at_builtin
                             refine wpList_append_lies _ rfl _ _ 26 rfl w6.heap.size 9 iS _ 1 16 Tryz.underlying26 HUS.out.1 HUS.out.2.1 HUS.out.2.2.1 HUS.out.2.2.2 rfl (by omega) (.slice so' sn' sc') q ((y.2.take q).map Value.string) rfl ((HR.out.2.2.alloc (.cells #[.string y.1, .string vq] 96)).alloc (.cells #[.string vq] 9)) ⟨wx.heap.size + 1, 0, none⟩ 1 1 [.string vq] rfl rfl
                               (World.news_of_block (cs := #[.string vq]) (t := 9) (fr := (0, 0)) (by have h := heap_alloc_new (wx.alloc (.cells #[.string y.1, .string vq] 96)) (.cells #[.string vq] 9); rwa [World.size_alloc] at h)) (by simp [Value.oneCell']) (by omega) (by unfold maxLen; omega) (by omega) ?c5 (wx.heap.size + 1 + 1) (by simp) ?_
                             case c5 =>
                               have h1 := HR.out.1.size
                               rw [World.size_alloc, World.size_alloc]; omega
                             intro gg cap w8 hown8 hgrow hgat hglt
                             have kg := grown_keep HR.out.2.2 hgrow
                             have hb8 := kg.heap (((Keep.alloc wx (.cells #[.string y.1, .string vq] 96) NoB).then (Keep.alloc _ (.cells #[.string vq] 9) NoB)).heap HR.out.2.1 (NoB.not _)) (by have := HV.out.2.2.1; omega)
                             have r8 : w8.cell? ⟨wo.heap.size, 1, none⟩ = some (.slice so' sn' sc') := by rw [cell_cells hb8]; rfl
                             have z8 := frozen_cells hb8 1
                             have HX := Lib.hid (And.intro hown8 (And.intro kg hb8))
                             clear hown8 hgrow hgat hglt kg hb8 r1 f0 f1)
                go_roundg (gk - 1)
                case measure => omega
                case rel =>
                  obtain ⟨hown8, kg, hb8⟩ := HX.out
                  have s6 := HV.out.2.2.1
                  have s7 := HR.out.1.size
                  have ks := Keep.setCell (M := (· = wo.heap.size)) w8 ⟨wo.heap.size, 1, none⟩ (.slice (some ⟨gg, 0, none⟩) (q + 1) cap) (fun _ => rfl)
                  refine ⟨q + 1, _, by omega, by go_num, ?_, setCell_cells hb8 1 _, ?_⟩
                  · exact (HR.out.1.then ((Keep.alloc _ _ NoB).then (Keep.alloc _ _ NoB))).trans (kg.trans ks (M'' := fun i => i = wo.heap.size ∨ w6.heap.size ≤ i) (fun _ _ h => .inr h) (fun _ _ h => .inl h)) (fun _ _ h => h) (fun i hi h => by rcases h with h | h; exact h; omega)
                  · have hql : q < y.2.length := by have := HV.out.2.2.2; omega
                    have hv : vq = y.2[q] := by rw [HV.out.1, List.getD_eq_getElem?_getD, List.getElem?_eq_getElem hql]; rfl
                    rw [List.take_succ_eq_append_getElem hql, List.map_append, ← hv]
                    exact World.ownsRow.keep hown8 ks (fun i hi h => by have : i = wo.heap.size := h; omega)
              · have hqn : q = vn := by omega
                subst hqn
                clear hltq hq
                obtain ⟨w7, rfl⟩ : ∃ w7 : World, w7 = wr := ⟨_, rfl⟩
                obtain ⟨so2, sc2, rfl⟩ := HL2.out.1.row.shape
                obtain ⟨hvc, hvn, hy, hkj, k6, hb6, hs6⟩ := HQ2.out
                have s5 := HL2.out.1.keep.size
                have s4 := HC2.out.2.2.2.2.size
                have s3 := HL.out.1.keep.size
                have s2 := HC.out.2.2.2.2.size
                have k67 : Keep NoB wo w7 := k6.trans HR.out.1 (fun _ _ h => h) (fun i hi h => by omega)
                have hb7 := k67.heap HL2.out.1.res (NoB.not _)
                have r7 : w7.cell? ⟨w.heap.size, 1, none⟩ = some (.slice so2 lN.length sc2) := by rw [cell_cells hb7]; rfl
                have d0 : w7.cell? ⟨wo.heap.size, 0, none⟩ = some (.string kj) := by rw [cell_cells HR.out.2.1]; rfl
                have d1 : w7.cell? ⟨wo.heap.size, 1, none⟩ = some (.slice so' sn' sc') := by rw [cell_cells HR.out.2.1]; rfl
                have HZ := Lib.hid (And.intro hvn (And.intro hy (And.intro hkj (And.intro k67 (And.intro hb7 (And.intro hs6 (And.intro s2 (And.intro s3 (And.intro s4 s5)))))))))
                have h7 := HR.out.1.size
                have hlt7 : w.heap.size < w7.heap.size := by omega
                clear hvc hvn hy hkj k6 hb6 k67 hb7 s2 s3 s4 s5 hs6 h7
                go_wp2_with (at_builtin
                             obtain ⟨xs, hown, hpush⟩ := ((HL2.out.1.row.keep0 EnumC.keeps HZ.out.2.2.2.1).keep0 EnumC.keeps (Keep.alloc w7 (.cells #[.string kj, .slice so' sn' sc'] 93) NoB)).opened EnumC.keeps
                             refine wpList_append_lies _ rfl _ _ 36 rfl w5.heap.size 93 iN _ 2 40 Tryz.underlying36 HUN.out.1 HUN.out.2.1 HUN.out.2.2.1 HUN.out.2.2.2 rfl (by omega) (.slice so2 lN.length sc2) lN.length xs rfl hown ⟨w7.heap.size, 0, none⟩ 1 1 [.string kj, .slice so' sn' sc'] rfl rfl
                               (World.news_of_block (cs := #[.string kj, .slice so' sn' sc']) (t := 93) (fr := (0, 0)) (heap_alloc_new w7 _)) (by simp [Value.oneCell']) (by omega) (by rw [HL2.out.2]; unfold maxLen; omega) (by rw [HL2.out.2]; omega) ?c5 (w7.heap.size + 1) (by simp) ?_
                             case c5 =>
                               have h1 := HZ.out.2.2.2.1.size
                               have h2 := HZ.out.2.2.2.2.2.2.2.2.2
                               rw [World.size_alloc]; omega
                             intro gg cap w8 hown8 hgrow hgat hglt
                             obtain ⟨hr8, hk8⟩ := hpush gg cap w8 (kj, y.2) [.string kj, .slice so' sn' sc'] rfl
                               ⟨(so', sn', sc'), rfl, by
                                 have h1 := HR.out.2.2
                                 rw [HZ.out.1, List.take_length] at h1
                                 have h2 := (ownsRow_strs (M := fun i => OB (.slice so2 lN.length sc2) i ∨ i < w5.heap.size) h1 (fun i hi => by
                                   have h3 := HZ.out.2.2.2.2.2.1
                                   have h4 := HZ.out.2.2.2.2.2.2.2.2.2
                                   rcases hi with hi | hi
                                   · have := (HL2.out.1.row.lt i hi).2; omega
                                   · omega)).2
                                 exact StrsAt.keep.k (Keep.alloc _ _ NoB) (fun _ _ h => h.elim) (fun _ _ h => h) h2⟩ hown8 hgrow (by simpa using hgat)
                             have hne : ¬ OB (.slice so2 lN.length sc2) w.heap.size := fun h => by
                               have h1 := (HL2.out.1.row.lt _ h).1
                               have h3 := HZ.out.2.2.2.2.2.2
                               omega
                             have hb8 := hk8.heap ((Keep.alloc w7 (.cells #[.string kj, .slice so' sn' sc'] 93) NoB).heap HZ.out.2.2.2.2.1 (NoB.not _)) hne
                             have r8 : w8.cell? ⟨w.heap.size, 1, none⟩ = some (.slice so2 lN.length sc2) := by rw [cell_cells hb8]; rfl
                             have z8 := frozen_cells hb8 1
                             have HX := Lib.hid (And.intro hr8 (And.intro hk8 hb8))
                             clear hr8 hk8 hb8 hown8 hgrow hgat hglt hown hpush hne d0 d1 r7)
                go_roundg (m' - (j2 + 1))
                case measure => omega
                case rel =>
                  obtain ⟨hr8, hk8, hb8⟩ := HX.out
                  have hkeys := HL2.out.1.keys
                  have h3 := HZ.out.2.2.2.2.2.2
                  have ks := Keep.setCell (M := (· = w.heap.size)) w8 ⟨w.heap.size, 1, none⟩ (.slice (some ⟨gg, 0, none⟩) (lN.length + 1) cap) (fun _ => rfl)
                  refine ⟨j2 + 1, lN ++ [(kj, y.2)], _, by omega, by go_num, ?_, setCell_cells hb8 1 _, ?_, ?_, fun p hp => ?_⟩
                  · exact ((HL2.out.1.keep.then HZ.out.2.2.2.1).then (Keep.alloc _ _ _)).trans (hk8.trans ks (M'' := fun i => i = w.heap.size ∨ OB (.slice so2 lN.length sc2) i) (fun _ _ h => .inr h) (fun _ _ h => .inl h)) (fun _ _ h => h) (fun i hi h => by
                      rcases h with h | h
                      · exact h
                      · have := (HL2.out.1.row.lt i h).1; omega)
                  · exact hr8.keep EnumC.keeps ks (fun i hi => by
                      have : i = w.heap.size := hi
                      omega)
                  · obtain ⟨hj1, hj2'⟩ := List.getElem?_eq_some_iff.1 HZ.out.2.2.1
                    rw [List.map_append, hkeys, List.take_succ_eq_append_getElem hj1, hj2']; rfl
                  · rcases List.mem_append.1 hp with hp | hp
                    · exact HL2.out.1.done p hp
                    · simp only [List.mem_singleton] at hp
                      subst hp
                      exact ⟨y, kget_mem HN.out.2.1.nodup HZ.out.2.1, rfl⟩
          · have hjm : j2 = m' := by omega
            subst hjm
            clear hlt2 hj2
            have hb4 := HL2.out.1.res
            have kr : Keep (· = w.heap.size) w2 wr := (HK2.out.then HC2.out.2.2.2.2).trans HL2.out.1.keep (fun _ _ h => h) (fun _ _ h => h)
            have g3 := kr.cell HP.out.2.2.2 HI.out.2.2.2.2.2
            have hkAr := HACT.out.1.keep kr HI.out.2.2.2.2.1
            have hsA := sortedActs_c wr oA lvA hkAr (by rw [HACT.out.2.2.1.len]; exact HACT.out.2.2.2.1)
            have HS3 := Lib.hid (And.intro hsA (And.intro (Keep.alloc wr (.cells #[.map (some oA)] 82) NoB) (And.intro kr hb4)))
            clear hsA kr hb4 hkAr
            obtain ⟨w8, rfl⟩ : ∃ w8 : World, w8 = wr := ⟨_, rfl⟩
            go_wp2_with fail
            refine (keysAct_c _ _).mono ?_
            rintro e wk ⟨rfl, hwk⟩
            subst hwk
            go_wp2_with fail
            refine HS3.out.1.mono ?_
            rintro e w9 ⟨ks3, o3, cc3, rfl, hp3, hpw3, hat3, k9⟩
            clear g3
            have hb9 := k9.heap (HS3.out.2.1.heap HS3.out.2.2.2 (NoB.not _)) (NoB.not _)
            obtain ⟨m3, hkn3⟩ : ∃ m3, m3 = ks3.length := ⟨_, rfl⟩
            rw [← hkn3]
            have hmL3 : m3 ≤ 1000000 := by
              have h1 := hp3.length_eq
              have h2 := HACT.out.2.2.2.1
              have h3 := HACT.out.2.2.1.len
              rw [List.length_map] at h1; omega
            have hsz9 : w.heap.size < w8.heap.size ∧ w8.heap.size + 1 ≤ w9.heap.size := by
              have h1 := HS3.out.2.2.1.size
              have h2 := k9.size
              rw [World.size_alloc] at h2
              exact ⟨by omega, h2⟩
            have HC3 := Lib.hid (And.intro hkn3 (And.intro hp3 (And.intro hpw3 (And.intro hat3 (And.intro k9 (And.intro hb9 hsz9))))))
            clear hkn3 hp3 hpw3 hat3 k9 hb9 hsz9
            obtain ⟨so1, sc1, rfl⟩ := HL.out.1.row.shape
            obtain ⟨so2, sc2, rfl⟩ := HL2.out.1.row.shape
            go_wp2_with fail
            go_loopg [128] m3 (fun g i wx => ∃ (j : Nat) (lA : List (Uid × OAct)) (sl : Value), j + g = m3 ∧ i = .int .i64 j ∧ ActL w9 wx w.heap.size (.slice so1 lE.length sc1) (.slice so2 lN.length sc2) RA ks3 j lA sl)
            case atStart => exact ⟨0, [], _, by omega, rfl, Keep.refl _ _, HC3.out.2.2.2.2.2.1, RowIs.nil _ _ _ _ _, rfl, fun _ h => by simp at h⟩
            case round =>
              obtain ⟨j3, lA, slA, hj3, rfl, hl3⟩ := hrel
              have hlen3 : lA.length = j3 := by
                have h1 := congrArg List.length hl3.keys
                have h2 := HC3.out.1
                rw [List.length_map, List.length_take] at h1; omega
              have HL3 := Lib.hid (And.intro hl3 hlen3)
              clear hl3 hlen3
              by_cases hlt3 : j3 < m3
              · obtain ⟨hkn3, hp3, hpw3, hat3, k9, hb9, hsz9⟩ := HC3.out
                obtain ⟨kj, hkj⟩ : ∃ kj, ks3[j3]? = some kj := ⟨_, List.getElem?_eq_getElem (by omega)⟩
                obtain ⟨v, hv⟩ : ∃ v, (kj, v) ∈ lvA := by
                  have h1 : kj ∈ lvA.map (·.1) := hp3.mem_iff.1 (List.mem_of_getElem? hkj)
                  obtain ⟨⟨k, v⟩, h2, rfl⟩ := List.mem_map.1 h1
                  exact ⟨v, h2⟩
                obtain ⟨y, hy, hyv⟩ := (HACT.out.2.1.back HACT.out.1.nodup).1 kj v hv
                have hyok : RActOk y := HA.out.1.acts V HG.out.2.1 HAC.out kj y (HACT.out.2.2.2.2.1.made.back _ _ (kget_mem HACT.out.2.2.1.nodup hy))
                obtain ⟨an, pv, tv, rfl, ⟨pb, lp, rfl, hMp, hmp, hup⟩, hto⟩ := hyv
                have kr : Keep (· = w.heap.size) w2 wr := ((HS3.out.2.2.1.then HS3.out.2.1).then k9).trans HL3.out.1.keep (fun _ _ h => h) (fun _ _ h => h)
                have hcell : wr.cell? ⟨c', 3, none⟩ = some (.map (some oA)) := kr.cell HP.out.2.2.2 HI.out.2.2.2.2.2
                have hm := HACT.out.1.keep kr HI.out.2.2.2.2.1
                have hmpR := hmp.keep kr (fun q => hMp (.inr q))
                have htoR := RTo.keep.k (M' := (· = w.heap.size)) kr (fun _ _ h => .inr h) (fun _ _ h => .inr h) hto
                obtain ⟨ap, rfl, tb, htb, hap⟩ : ∃ ap, tv = .pointer ap ∧ ∃ tb : Bool, tb = y.app.isSome ∧ ((ap = none ∧ y.app = none ∧ tb = false) ∨ ∃ bt x, ap = some ⟨bt, 0, none⟩ ∧ y.app = some x ∧ tb = true) := by
                  cases hq : y.app with
                  | none => rw [hq] at htoR; exact ⟨none, htoR, false, rfl, .inl ⟨rfl, rfl, rfl⟩⟩
                  | some x => rw [hq] at htoR; obtain ⟨b, _, _, _, e, _⟩ := htoR; exact ⟨_, e, true, rfl, .inr ⟨b, x, rfl, rfl, rfl⟩⟩
                have hlpL : lp.length ≤ 1000000 := by
                  have := length_le_of_subset hmpR.nodup (b := y.parents) (fun x hx => (hup x).1 hx)
                  rw [List.length_map] at this; have := hyok.par; omega
                obtain ⟨ov3, cc4, he, hcells⟩ := hat3
                simp only [Value.slice.injEq] at he
                obtain ⟨rfl, hx, rfl⟩ := he
                clear hx
                rcases hcells with h0 | ⟨bv, offv, rfl, hMv, hcl⟩
                · omega
                have hcw := (hcl j3 (by omega)).2.keep HL3.out.1.keep (by show ¬ (bv = _); rw [World.size_alloc] at hMv; omega)
                have hkj' : ks3.getD j3 (⟨#[]⟩, ⟨#[]⟩) = kj := by rw [List.getD_eq_getElem?_getD, hkj]; rfl
                have d0 := hcw 0 _ rfl
                have d1 := hcw 1 _ rfl
                rw [Nat.add_zero] at d0
                rw [hkj'] at d0 d1
                obtain ⟨wo, rfl⟩ : ∃ wo : World, wo = wr := ⟨_, rfl⟩
                obtain ⟨wK, hwK⟩ : ∃ wK, wK = wo.alloc (.cells #[.string kj.1, .string kj.2] 96) := ⟨_, rfl⟩
                have kK : Keep NoB wo wK := hwK ▸ Keep.alloc _ _ _
                have hsK : wK.heap.size = wo.heap.size + 1 := by rw [hwK, World.size_alloc]
                have hbK : wK.heap[wo.heap.size]? = some (.cells #[.string kj.1, .string kj.2] 96 (0, 0)) := hwK ▸ (MapKept.heap_alloc wo _).1
                have hgl : kget lvA kj = some (.agg #[.string y.uid.1, .string y.uid.2, .map (some pb), .map none, .int .u64 0, .map none, .int .u64 0, .map an, .pointer ap]) := kget_mem HACT.out.1.nodup hv
                have HQ0 := Lib.hid (show ∀ x, Keep NoB wK x → x.cell? ⟨c', 3, none⟩ = some (.map (some oA)) ∧ x.cell? ⟨wo.heap.size, 0, none⟩ = some (.string kj.1) ∧ x.cell? ⟨wo.heap.size, 1, none⟩ = some (.string kj.2) ∧ (Instr.lookup 82 (.map (some oA)) (.agg #[.string kj.1, .string kj.2]) false).run Tryz.prog x = .ok (.agg #[.string y.uid.1, .string y.uid.2, .map (some pb), .map none, .int .u64 0, .map none, .int .u64 0, .map an, .pointer ap]) x from fun x kx => by
                  have h1 := kx.heap hbK (NoB.not _)
                  have h3 := ((hm.keep kK (NoB.not _)).keep kx (NoB.not _)).lookup (P := Tryz.prog) kU Tryz.underlying82 (zeroRAct x) kj false
                  rw [hgl] at h3
                  exact ⟨(kK.then kx).cell hcell (NoB.not _), by rw [cell_cells h1]; rfl, by rw [cell_cells h1]; rfl, h3⟩)
                have HQ := Lib.hid (And.intro hy (And.intro hyok (And.intro hup (And.intro hmpR (And.intro htoR (And.intro htb (And.intro hap (And.intro hlpL (And.intro hkj (And.intro kr (And.intro hwK (And.intro kK (And.intro hsK hbK)))))))))))))
                clear hkn3 hp3 hpw3 k9 hb9 hsz9 hkj hv hy hyok hto kr hcell hm hmp hmpR hMp htoR htb hap hlpL hMv hcl hcw hkj' hwK kK hsK hbK hgl hup
                go_upto_region 30 with fail
                have hwK' := HQ.out.2.2.2.2.2.2.2.2.2.2.1
                rw [← hwK']
                clear hwK' d0 d1
                obtain ⟨g1, g2, g3, g4⟩ := HQ0.out wK (Keep.refl _ _)
                obtain ⟨q1, q2, q3, q4⟩ := HQ0.out wK.drew (Keep.drew _ _)
                obtain ⟨t1, t2, t3, t4⟩ := HQ0.out (wK.alloc (.cells #[.string ⟨#[]⟩, .string ⟨#[]⟩, .map none, .map none, .int .u64 0, .map none, .int .u64 0, .map none, .pointer none] 111)).drew ((Keep.alloc wK _ NoB).then (Keep.drew _ _))
                have HTs := Lib.hid (And.intro q1 (And.intro q2 (And.intro q3 (And.intro q4 (And.intro t1 (And.intro t2 (And.intro t3 t4)))))))
                go_cut [20, 128] from 128 to 191 (fun s20 s128 wx => s20 = .pointer (some ⟨wK.heap.size, 0, none⟩) ∧ s128 = .int .i64 j3 ∧ wx = (wK.alloc (.cells #[.string y.uid.1, .string y.uid.2, .map (some pb), .map none, .int .u64 0, .map none, .int .u64 0, .map an, .pointer ap] 111)).drew)
                case first =>
                  clear HTs
                  go_region
                  all_goals
                    clear g1 g2 g3 g4 q1 q2 q3 q4 t1 t2 t3 t4
                    go_wp2_with fail
                    go_meet
                    case rel => exact ⟨rfl, rfl, rfl⟩
                case rest =>
                  obtain ⟨rfl, rfl, hwA⟩ := hcut
                  clear g1 g2 g3 g4 q1 q2 q3 q4 t1 t2 t3 t4 HTs
                  obtain ⟨wA, hwA2⟩ : ∃ wA, wA = wc := ⟨_, rfl⟩
                  rw [← hwA2] at hwA ⊢
                  clear hwA2
                  obtain ⟨hy, hyok, hup, hmpR, htoR, htb, hap, hlpL, hkj, kr, hwK, kK, hsK, hbK⟩ := HQ.out
                  have kA1 : Keep NoB wK wA := hwA ▸ (Keep.alloc wK _ NoB).then (Keep.drew _ _)
                  have kA : Keep NoB wo wA := kK.then kA1
                  have hsA : wA.heap.size = wK.heap.size + 1 := by rw [hwA]; exact World.size_alloc _ _
                  have hbA : wA.heap[wK.heap.size]? = some (.cells #[.string y.uid.1, .string y.uid.2, .map (some pb), .map none, .int .u64 0, .map none, .int .u64 0, .map an, .pointer ap] 111 (0, 0)) := by
                    rw [hwA]; exact (Keep.drew _ NoB).heap (MapKept.heap_alloc wK _).1 (NoB.not _)
                  have hbKA := kA1.heap hbK (NoB.not _)
                  have HQ4 := Lib.hid (show ∀ x, Keep NoB wA x → x.cell? ⟨wo.heap.size, 0, none⟩ = some (.string kj.1) ∧ x.cell? ⟨wo.heap.size, 1, none⟩ = some (.string kj.2) ∧ x.cell? ⟨wK.heap.size, 8, none⟩ = some (.pointer ap) ∧ x.cell? ⟨wK.heap.size, 2, none⟩ = some (.map (some pb)) from fun x kx => by
                    have h1 := kx.heap hbKA (NoB.not _)
                    have h2 := kx.heap hbA (NoB.not _)
                    exact ⟨by rw [cell_cells h1]; rfl, by rw [cell_cells h1]; rfl, by rw [cell_cells h2]; rfl, by rw [cell_cells h2]; rfl⟩)
                  have hnq : ∀ x, (binOp .neq 109 (.pointer ap) (.pointer none)).run Tryz.prog x = .ok (.bool tb) x := fun x => by
                    rcases hap with ⟨rfl, _, rfl⟩ | ⟨bt, z, rfl, _, rfl⟩
                    · exact ptr_ne_none x
                    · exact ptr_ne_some bt x
                  have hKA : Keep NoB wA wA.drew := Keep.drew _ _
                  obtain ⟨q0, q1, q2, q3⟩ := HQ4.out _ hKA
                  have HW := Lib.hid (And.intro kA hsA)
                  clear hy hyok hup hmpR htoR htb hap hlpL hkj kr hwK kK hsK hbK kA1 kA hsA hbA hbKA hwA
                  go_upto_region 31 with fail
                  go_cut [21, 128] from 128 to 191 (fun s21 s128 wx => s128 = .int .i64 j3 ∧ ∃ (d : Nat), s21 = .pointer (some ⟨d, 0, none⟩) ∧ Told31 wA wx kj tb d)
                  case first =>
                    go_region_held3 (fun x => Keep NoB wA x ∧ x.cell? ⟨wo.heap.size, 0, none⟩ = some (.string kj.1) ∧ x.cell? ⟨wo.heap.size, 1, none⟩ = some (.string kj.2) ∧ x.cell? ⟨wK.heap.size, 8, none⟩ = some (.pointer ap) ∧ x.cell? ⟨wK.heap.size, 2, none⟩ = some (.map (some pb)))
                      (with_reducible (first
                        | (refine (fun hh => ⟨hh, HQ4.out _ hh⟩) ?_; (repeat (refine keepLate ?_ (by first | exact Nat.le_refl _ | exact kw4.size))); exact kw4)
                        | exact ⟨(kw4.then (Keep.alloc _ _ _)), HQ4.out _ (kw4.then (Keep.alloc _ _ _))⟩
                        | exact ⟨(hKA.then (Keep.alloc _ _ _)), HQ4.out _ (hKA.then (Keep.alloc _ _ _))⟩
                        | exact ⟨kw4, HQ4.out _ kw4⟩
                        | exact ⟨hKA, q0, q1, q2, q3⟩
                        | assumption))
                      ((first
                        | (go_at_call 22
                           refine (plainUID_c kj _).mono ?_
                           rintro e w4 ⟨rfl, k4⟩
                           have kw4 : Keep NoB wA w4 := Keep.then (by go_split_ands; assumption) k4
                           (first | (with_reducible have hd := heap_alloc1 k4) | (with_reducible have hd := heap_alloc2 k4) | skip)
                           (first | (have hcd := cells7 hd; obtain ⟨⟨e0, e1, e2, e3, e4, e5, e6⟩, z0, z1, z2, z3, z4, z5, z6⟩ := hcd) | skip))))
                    · have HZ := Lib.hid kw4
                      clear q0 q1 q2 q3 hKA hnq k4 kw4
                      go_wp2_with fail
                      go_meet
                      case rel => exact ⟨rfl, _, rfl, HZ.out.size, HZ.out.then (Keep.alloc _ _ _), (MapKept.heap_alloc w4 _).1⟩
                    · have HZ := Lib.hid (And.intro hd kw4)
                      clear q0 q1 q2 q3 hKA hnq k4 kw4 hd e0 e1 e2 e3 e4 e5 e6 z0 z1 z2 z3 z4 z5 z6
                      go_wp2_with fail
                      go_meet
                      case rel =>
                        obtain ⟨hd, kw4⟩ := HZ.out
                        obtain ⟨wz, hwz, ks, hz⟩ := set7 _ _ _ (.string kj.1) (.string kj.2) (.slice none 0 0) (.bool tb) (.slice none 0 0) (.slice none 0 0) (.slice none 0 0) hd
                        rw [← hwz]
                        exact ⟨rfl, _, rfl, Nat.le_refl _, kw4.trans ks (fun _ _ h => h) (fun i hi h => by have : i = wA.heap.size := h; omega), hz⟩
                  case rest =>
                    obtain ⟨rfl, d, rfl, hT⟩ := hcut
                    have e2 := (HQ4.out wc hT.keep).2.2.2
                    have HD := Lib.hid hT
                    have hmpC := (HQ.out.2.2.2.1.keep HW.out.1 (NoB.not _)).keep hT.keep (NoB.not _)
                    have HMP := Lib.hid hmpC
                    clear hT hmpC hnq hKA q0 q1 q2 q3
                    go_wp2_with fail
                    refine (uidsAllI_c (some pb) _).mono ?_
                    rintro e w5 ⟨b5, rfl, hb5, hbc5, k5⟩
                    have hS5 := sortedSet_c w5 b5 pb lp hbc5 (HMP.out.keep k5 (NoB.not _)) HQ.out.2.2.2.2.2.2.2.1
                    have HS5 := Lib.hid (And.intro hS5 k5)
                    clear hS5 hb5 hbc5 k5 e2
                    go_wp2_with fail
                    refine HS5.out.1.mono ?_
                    rintro e w6 ⟨ks5, o5, cc5, rfl, hp5, hpw5, hat5, k6⟩
                    obtain ⟨m5, hkn5⟩ : ∃ m5, m5 = ks5.length := ⟨_, rfl⟩
                    rw [← hkn5]
                    have hmL5 : m5 ≤ 1000000 := by
                      have h1 := hp5.length_eq
                      have h2 := HQ.out.2.2.2.2.2.2.2.1
                      rw [List.length_map] at h1; omega
                    have HC5 := Lib.hid (And.intro hkn5 (And.intro hp5 (And.intro hpw5 (And.intro hat5 (HS5.out.2.then k6)))))
                    clear hkn5 hp5 hpw5 hat5 k6
                    go_wp2_with fail
                    go_loopg [150] m5 (fun g i wx => ∃ (q : Nat) (sl : Value), q + g = m5 ∧ i = .int .i64 q ∧ ParL w6 wx d kj tb ks5 q sl)
                    case atStart => exact ⟨0, .slice none 0 0, by omega, rfl, Keep.refl _ _, HC5.out.2.2.2.2.heap HD.out.row (NoB.not _), rfl, .inl ⟨rfl, rfl⟩⟩
                    case round =>
                      obtain ⟨q, sl, hq, rfl, hrow⟩ := hrel
                      have HR5 := Lib.hid hrow
                      clear hrow
                      have hs5 : d < w5.heap.size := by
                        have h1 := (Array.getElem?_eq_some_iff.1 HD.out.row).1
                        have h2 := HS5.out.2.size
                        omega
                      have hs6 : d < w6.heap.size := by
                        have h1 := (Array.getElem?_eq_some_iff.1 HD.out.row).1
                        have h2 := HC5.out.2.2.2.2.size
                        omega
                      by_cases hltq : q < m5
                      · obtain ⟨hkn5, hp5, hpw5, hat5, k56⟩ := HC5.out
                        obtain ⟨so5, sc5, rfl⟩ := ownsRow_shape HR5.out.own
                        obtain ⟨ov5, c5, he, hcs⟩ := hat5
                        simp only [Value.slice.injEq] at he
                        obtain ⟨rfl, hx, rfl⟩ := he
                        clear hx
                        rcases hcs with h0 | ⟨bv5, offv5, rfl, hMv, hcell⟩
                        · omega
                        have hcv := (hcell q (by omega)).2.keep HR5.out.keep (by show ¬ (bv5 = d); omega)
                        obtain ⟨uj, huj⟩ : ∃ uj, uj = ks5.getD q (⟨#[]⟩, ⟨#[]⟩) := ⟨_, rfl⟩
                        have d0 := hcv 0 _ rfl
                        have d1 := hcv 1 _ rfl
                        rw [Nat.add_zero] at d0
                        rw [← huj] at d0 d1
                        obtain ⟨wi, rfl⟩ : ∃ wi : World, wi = wr := ⟨_, rfl⟩
                        obtain ⟨wU, hwU⟩ : ∃ wU, wU = wi.alloc (.cells #[.string uj.1, .string uj.2] 96) := ⟨_, rfl⟩
                        have kU5 : Keep NoB wi wU := hwU ▸ Keep.alloc _ _ _
                        have hbU : wU.heap[wi.heap.size]? = some (.cells #[.string uj.1, .string uj.2] 96 (0, 0)) := hwU ▸ (MapKept.heap_alloc wi _).1
                        have HQ5 := Lib.hid (show ∀ x, Keep NoB wU x → x.heap[d]? = some (.cells #[.string kj.1, .string kj.2, .slice so5 q sc5, .bool tb, .slice none 0 0, .slice none 0 0, .slice none 0 0] 48 (0, 0)) ∧ x.cell? ⟨d, 2, none⟩ = some (.slice so5 q sc5) ∧ x.cell? ⟨wi.heap.size, 0, none⟩ = some (.string uj.1) ∧ x.cell? ⟨wi.heap.size, 1, none⟩ = some (.string uj.2) ∧ x.ownsRow w6.heap.size 34 2 (.slice so5 q sc5) q (uidCells (ks5.take q)) from fun x kx => by
                          have h1 := (kU5.then kx).heap HR5.out.row (NoB.not _)
                          have h2 := kx.heap hbU (NoB.not _)
                          exact ⟨h1, by rw [cell_cells h1]; rfl, by rw [cell_cells h2]; rfl, by rw [cell_cells h2]; rfl, HR5.out.own.keep (M := NoB) (kU5.then kx) (fun _ _ => NoB.not _)⟩)
                        have HZ5 := Lib.hid (And.intro huj (And.intro hwU (And.intro kU5 (And.intro (show w6.heap.size ≤ wi.heap.size from HR5.out.keep.size) hkn5))))
                        clear hkn5 hp5 hpw5 k56 hMv hcell hcv huj hwU kU5 hbU
                        go_upto_region 35 with fail
                        have hwU' := HZ5.out.2.1
                        rw [← hwU']
                        clear hwU' d0 d1
                        have kD : Keep NoB wU wU.drew := Keep.drew _ _
                        obtain ⟨_, c0, f0, f1, _⟩ := HQ5.out _ kD
                        go_region_law
                          (first
                            | (go_simp; go_at_call 22; refine (plainUID_c uj _).mono ?_; rintro e w4 ⟨rfl, k4⟩; have kw4 := kD.then k4; have c4 := (HQ5.out _ kw4).2.1; have c5 := fun O => (HQ5.out (w4.alloc O) (kw4.then (Keep.alloc _ _ _))).2.1)
                            | (obtain ⟨_, _, _, _, hown⟩ := HQ5.out (w4.alloc (.cells #[.string uj.1, .string uj.2] 34)) (kw4.then (Keep.alloc _ _ _))
                               refine step_append_lies _ (by rfl) _ _ _ (by rfl) w6.heap.size 34 iD _ 2 32 Tryz.underlying25 HUD.out.1 HUD.out.2.1 HUD.out.2.2.1 HUD.out.2.2.2 rfl (by omega) _ _ (uidCells (ks5.take q)) (by rfl) hown
                                 ⟨w4.heap.size, 0, none⟩ 1 1 [.string uj.1, .string uj.2] (by rfl) (by rfl) (World.news_of_block (cs := #[.string uj.1, .string uj.2]) (t := 34) (fr := (0, 0)) (heap_alloc_new w4 _)) (by simp [Value.oneCell'])
                                 (by omega) (by unfold maxLen; omega) (by omega) (by have h1 := HZ5.out.2.2.2.1; have h2 := HZ5.out.2.2.1.size; have h3 := kw4.size; simp; omega) (w4.heap.size + 1) (by simp) ?_
                               intro gg cap wg hown5 hgrow hgat hglt
                               have kg := grown_keep hown hgrow
                               have ka : Keep (fun i => w6.heap.size ≤ i) wU wg := (kw4.then (Keep.alloc _ _ _)).first kg
                               have hbg := ka.heap (HQ5.out wU (Keep.refl _ _)).1 (by omega)
                               have HX5 := Lib.hid (And.intro ka (And.intro hown5 hbg))
                               have c6 : wg.frozen? ⟨d, 2, none⟩ = false := frozen_cells hbg 2
                               have c7 : wg.cell? ⟨d, 2, none⟩ = some (.slice so5 q sc5) := by rw [cell_cells hbg]; rfl
                               clear hown5 hgrow hgat hglt hown kg ka hbg k4))
                        all_goals
                          clear c0 c4 c5 c6 c7 f0 f1 kD
                          go_wp2_with fail
                          go_roundg (gk - 1)
                          case measure => omega
                          case rel =>
                            obtain ⟨ka, hown5, hbg⟩ := HX5.out
                            obtain ⟨huj, _, kU5, hszr, hkn5⟩ := HZ5.out
                            have kst : Keep (· = d) wg (wg.setCell ⟨d, 2, none⟩ (.slice (some ⟨gg, 0, none⟩) (q + 1) cap)) := Keep.setCell _ _ _ (fun _ => rfl)
                            refine ⟨q + 1, .slice (some ⟨gg, 0, none⟩) (q + 1) cap, by omega, by go_num, ⟨((HR5.out.keep.then kU5).trans ka (M'' := (· = d)) (fun _ _ h => h) (fun i hi h => by omega)).trans kst (fun _ _ h => h) (fun _ _ h => h), setCell_cells hbg 2 _, ?_⟩⟩
                            have hjl : q < ks5.length := by omega
                            have huj2 : uj = ks5[q] := by rw [huj, List.getD_eq_getElem?_getD, List.getElem?_eq_getElem hjl]; rfl
                            rw [List.take_succ_eq_append_getElem hjl, ← huj2, uidCells_snoc]
                            exact World.ownsRow.keep (M := (· = d)) hown5 kst (fun i hi h => by omega)
                      · have hqn : q = m5 := by omega
                        subst hqn
                        obtain ⟨so5, sc5, rfl⟩ := ownsRow_shape HR5.out.own
                        obtain ⟨wP, rfl⟩ : ∃ wP : World, wP = wr := ⟨_, rfl⟩
                        have hle := HD.out.le
                        have kAP : Keep NoB wA wP := (HD.out.keep.then HC5.out.2.2.2.2).trans HR5.out.keep (M'' := NoB) (fun _ _ h => h) (fun i hi h => by omega)
                        have hgr : UidsAt wP (fun i => i < wA.heap.size ∨ i = d) ks5 (.slice so5 q sc5) := by
                          have h1 := HR5.out.own
                          rw [show ks5.take q = ks5 by rw [HC5.out.1]; exact List.take_length] at h1
                          exact (ownsRow_uids h1 (fun i h => by rcases h with h | h <;> omega)).2
                        have hrow := HR5.out.row
                        have f3 : wP.cell? ⟨d, 3, none⟩ = some (.bool tb) := by rw [cell_cells hrow]; rfl
                        have hsP : d < wP.heap.size := by have := HR5.out.keep.size; omega
                        have hpa : (∀ u, u ∈ ks5 ↔ u ∈ y.parents) ∧ ks5.Pairwise (fun x y => ¬ ltU y x) ∧ ks5.Nodup :=
                          ⟨fun u => HC5.out.2.1.mem_iff.trans (HQ.out.2.2.1 u), HC5.out.2.2.1, HC5.out.2.1.nodup_iff.2 HQ.out.2.2.2.1.nodup⟩
                        have HE5 := Lib.hid (And.intro kAP (And.intro hgr (And.intro hrow (And.intro hsP hpa))))
                        clear hle kAP hgr hrow hsP hpa hq hltq hs5 hs6
                        go_upto_if 163 with fail
                        go_cut [128] from 128 to 191 (fun s128 wx => s128 = .int .i64 j3 ∧ ∃ (e : OAct) (prs rss cs : Sl), Told39 wA wx kj y d e (so5, q, sc5) prs rss cs)
                        case first =>
                          clear f3
                          rcases HQ.out.2.2.2.2.2.2.1 with ⟨hn1, hn2, hn3⟩ | ⟨bt, x, hn1, hn2, hn3⟩
                          · subst hn3
                            clear hn1
                            have HN2 := Lib.hid hn2
                            clear hn2
                            go_wp2_with fail
                            go_meet
                            case rel =>
                              obtain ⟨kAP, hgr, hrow, hsP, h1, h2, h3⟩ := HE5.out
                              exact ⟨rfl, ⟨ks5, none⟩, (none, 0, 0), (none, 0, 0), (none, 0, 0), kAP, hrow, ⟨hgr, fun x h => by cases h⟩, h1, h2, h3, by rw [HN2.out]; trivial⟩
                          · subst hn3 hn1
                            obtain ⟨x1, x2, x3⟩ := x
                            have hto := HQ.out.2.2.2.2.1
                            rw [hn2] at hto
                            obtain ⟨bt', pv, rv, cv, he, hMt, hbt, hsp, hsr, hsh⟩ := hto
                            obtain rfl : bt = bt' := by simpa using he
                            clear he
                            obtain ⟨hx1, hx2, hxr⟩ := HQ.out.2.1.app _ hn2
                            obtain ⟨mb, rfl, lS, hlS, hAt⟩ := meantShape_c hsh (fun t ht => by cases ht; exact hxr)
                            obtain rfl : x3 = lS := by simpa [ShapeL] using hlS
                            clear hlS
                            dsimp only at hsp hsr hx1 hx2
                            obtain ⟨po, pc, rfl, hpc⟩ := hsp
                            have hsp : StrsAt wo (· = w.heap.size) x1 (.slice po x1.length pc) := ⟨po, pc, rfl, hpc⟩
                            obtain ⟨ro, rc, rfl, hrc⟩ := hsr
                            have hsr : StrsAt wo (· = w.heap.size) x2 (.slice ro x2.length rc) := ⟨ro, rc, rfl, hrc⟩
                            clear hpc hrc
                            have HNm1 := Lib.hid (show ∀ x, Keep NoB wA x → Calls Tryz.prog 15 #[.slice po x1.length pc] x (fun e w' => ∃ o n c', e = .returned (.slice o n c') ∧ StrsAt w' (· < x.heap.size) x1 (.slice o n c') ∧ Keep NoB x w') from fun x kx =>
                              meantNames_c x _ x1 po pc hx1 (StrsAt.keep.k (M' := (· = w.heap.size)) (HW.out.1.then kx) (fun _ _ h => h.elim) (fun _ _ h => h) hsp))
                            have HNm2 := Lib.hid (show ∀ x, Keep NoB wA x → Calls Tryz.prog 15 #[.slice ro x2.length rc] x (fun e w' => ∃ o n c', e = .returned (.slice o n c') ∧ StrsAt w' (· < x.heap.size) x2 (.slice o n c') ∧ Keep NoB x w') from fun x kx =>
                              meantNames_c x _ x2 ro rc hx2 (StrsAt.keep.k (M' := (· = w.heap.size)) (HW.out.1.then kx) (fun _ _ h => h.elim) (fun _ _ h => h) hsr))
                            have HAt := Lib.hid (show ∀ x, Keep NoB wA x → Calls Tryz.prog 16 #[.map mb] x (MeantRec x x3) from fun x kx => hAt x (HW.out.1.then kx))
                            have HQ8 := Lib.hid (show ∀ x, Keep NoB wA x → x.cell? ⟨wK.heap.size, 8, none⟩ = some (.pointer (some ⟨bt, 0, none⟩)) ∧ x.cell? ⟨bt, 0, none⟩ = some (.slice po x1.length pc) ∧ x.cell? ⟨bt, 1, none⟩ = some (.slice ro x2.length rc) ∧ x.cell? ⟨bt, 2, none⟩ = some (.map mb) from fun x kx => by
                              have h1 := (HW.out.1.then kx).heap hbt (NoB.not _)
                              exact ⟨(HQ4.out x kx).2.2.1, by rw [cell_cells h1]; rfl, by rw [cell_cells h1]; rfl, by rw [cell_cells h1]; rfl⟩)
                            have HN2 := Lib.hid hn2
                            have hKP : Keep NoB wA wP.drew := HE5.out.1.then (Keep.drew _ _)
                            obtain ⟨q0, q1, q2, q3⟩ := HQ8.out _ hKP
                            obtain ⟨g0, g1, g2, g3⟩ := HQ8.out _ HE5.out.1
                            have hdle := HD.out.le
                            have HFlag := Lib.hid True.intro
                            clear hn2 hMt hbt hsp hsr hsh hx1 hx2 hxr hAt
                            go_upto_region 38 with fail
                            go_region_held3 (fun x => Keep NoB wA x ∧ x.cell? ⟨wK.heap.size, 8, none⟩ = some (.pointer (some ⟨bt, 0, none⟩)) ∧ x.cell? ⟨bt, 0, none⟩ = some (.slice po x1.length pc) ∧ x.cell? ⟨bt, 1, none⟩ = some (.slice ro x2.length rc) ∧ x.cell? ⟨bt, 2, none⟩ = some (.map mb))
                              (with_reducible (first
                                | (refine (fun hh => ⟨hh, HQ8.out _ hh⟩) ?_; (repeat (refine keepLate ?_ hdle)); exact kw6)
                                | exact ⟨kw5, HQ8.out _ kw5⟩
                                | exact ⟨kw4, HQ8.out _ kw4⟩
                                | exact ⟨hKP, q0, q1, q2, q3⟩
                                | assumption))
                              ((first
                                | (clear HFlag
                                   go_at_call 15
                                   refine (HNm1.out _ (by go_split_ands; assumption)).mono ?_
                                   rintro e v4 ⟨no, nn, nc, rfl, hns4, k4⟩
                                   have kw4 : Keep NoB wA v4 := Keep.then (by go_split_ands; assumption) k4)
                                | (go_at_call 15
                                   refine (HNm2.out _ (by go_split_ands; assumption)).mono ?_
                                   rintro e v5 ⟨mo, mn, mc, rfl, hns5, k5⟩
                                   have kw5 : Keep NoB wA v5 := Keep.then (by go_split_ands; assumption) k5)
                                | (go_at_call 16
                                   refine (HAt.out _ (by go_split_ands; assumption)).mono ?_
                                   rintro e v6 ⟨lM, ao, ac, hmt, rfl, hat6, k6⟩
                                   have kw6 : Keep NoB wA v6 := Keep.then (by go_split_ands; assumption) k6
                                   have hd6 := ((((show Keep NoB wP wP.drew from Keep.drew _ _).then k4).then k5).then k6).heap HE5.out.2.2.1 (NoB.not _)
                                   obtain ⟨⟨e0, e1, e2, e3, e4, e5, e6⟩, z0, z1, z2, z3, z4, z5, z6⟩ := cells7 hd6)))
                            have HZ := Lib.hid (And.intro hns4 (And.intro hns5 (And.intro hmt (And.intro hat6 (And.intro k4 (And.intro k5 (And.intro k6 (And.intro kw6 hd6))))))))
                            clear q0 q1 q2 q3 g0 g1 g2 g3 hKP hdle hns4 hns5 hmt hat6 k4 k5 k6 kw4 kw5 kw6 hd6 e0 e1 e2 e3 e4 e5 e6 z0 z1 z2 z3 z4 z5 z6
                            go_wp2_with fail
                            go_meet
                            case rel =>
                              obtain ⟨hns4, hns5, hmt, hat6, k4, k5, k6, kw6, hd6⟩ := HZ.out
                              obtain ⟨kAP, hgr, hrow, hsP, h1, h2, h3⟩ := HE5.out
                              obtain ⟨wz, hwz, kz, hz⟩ := set456 v6 d 48 (.slice no nn nc) (.slice mo mn mc) (.slice ao lM.length ac) hd6
                              rw [← hwz]
                              have hle := HD.out.le
                              have s0 := kAP.size
                              have s1 := (Keep.drew wP NoB).size
                              have s4 := k4.size
                              have s5 := k5.size
                              have kP6 : Keep NoB wP v6 := (((Keep.drew wP NoB).then k4).then k5).then k6
                              refine ⟨rfl, ⟨ks5, some (x1, x2, lM)⟩, (no, nn, nc), (mo, mn, mc), (ao, lM.length, ac), kw6.trans kz (fun _ _ h => h) (fun i hi h => by omega), hz, ⟨?_, ?_⟩, h1, h2, h3, by rw [HN2.out]; exact ⟨rfl, rfl, hmt⟩⟩
                              · exact UidsAt.keep.k kz (fun _ _ h => .inr h) (fun _ _ h => h) (UidsAt.keep.k (M' := fun i => i < wA.heap.size ∨ i = d) kP6 (fun _ _ h => h.elim) (fun _ _ h => h) hgr)
                              · intro t ht
                                cases ht
                                refine ⟨StrsAt.keep.k kz (fun _ _ h => .inr h) (fun _ _ h => h) (StrsAt.keep.k (M' := fun i => i < wA.heap.size ∨ i = d) (k5.then k6) (fun _ _ h => h.elim) (fun i hi h => by show i < _; rcases h with h | h <;> omega) hns4),
                                  StrsAt.keep.k kz (fun _ _ h => .inr h) (fun _ _ h => h) (StrsAt.keep.k (M' := fun i => i < wA.heap.size ∨ i = d) k6 (fun _ _ h => h.elim) (fun i hi h => by show i < _; rcases h with h | h <;> omega) hns5), fun s e => ?_⟩
                                exact ((hat6 s e).keep (M' := fun i => i < wA.heap.size ∨ i = d) (Keep.refl NoB _) (fun _ _ h => h.elim) (fun i hi h => by show i < _; rcases h with h | h <;> omega)).keep kz (fun _ _ h => .inr h) (fun _ _ h => h)
                        case rest =>
                          obtain ⟨rfl, e, prs, rss, cs, hT⟩ := hcut
                          obtain ⟨so', sc', rfl⟩ := HL3.out.1.row.shape
                          have kwc : Keep NoB wo wc := HW.out.1.then hT.keep
                          have hbc := kwc.heap HL3.out.1.res (NoB.not _)
                          have r0 : wc.cell? ⟨w.heap.size, 2, none⟩ = some (.slice so' lA.length sc') := by rw [cell_cells hbc]; rfl
                          obtain ⟨⟨e0, e1, e2, e3, e4, e5, e6⟩, _⟩ := cells7 hT.row
                          obtain ⟨es, hes⟩ : ∃ es, es = e.app.isSome := ⟨_, rfl⟩
                          rw [← hes] at e3
                          dsimp only at e2
                          have HT2 := Lib.hid (And.intro hT (And.intro kwc (And.intro hbc hes)))
                          have hsz9 := HC3.out.2.2.2.2.2.2
                          clear hT kwc hbc hes f3
                          go_wp2_with (at_builtin
                                       obtain ⟨xs, hown, hpush⟩ := ((HL3.out.1.row.keep0 ActC.keeps HT2.out.2.1).keep0 ActC.keeps (Keep.alloc wc (.cells #[.string kj.1, .string kj.2, .slice so5 q sc5, .bool es, .slice prs.1 prs.2.1 prs.2.2, .slice rss.1 rss.2.1 rss.2.2, .slice cs.1 cs.2.1 cs.2.2] 48) NoB)).opened ActC.keeps
                                       refine wpList_append_lies _ rfl _ _ 37 rfl w9.heap.size 48 iA _ 7 136 Tryz.underlying37 HUA.out.1 HUA.out.2.1 HUA.out.2.2.1 HUA.out.2.2.2 rfl (by omega) (.slice so' lA.length sc') lA.length xs rfl hown ⟨wc.heap.size, 0, none⟩ 1 1 [.string kj.1, .string kj.2, .slice so5 q sc5, .bool es, .slice prs.1 prs.2.1 prs.2.2, .slice rss.1 rss.2.1 rss.2.2, .slice cs.1 cs.2.1 cs.2.2] rfl rfl
                                         (World.news_of_block (cs := #[.string kj.1, .string kj.2, .slice so5 q sc5, .bool es, .slice prs.1 prs.2.1 prs.2.2, .slice rss.1 rss.2.1 rss.2.2, .slice cs.1 cs.2.1 cs.2.2]) (t := 48) (fr := (0, 0)) (heap_alloc_new wc _)) (by simp [Value.oneCell']) (by omega) (by rw [HL3.out.2]; unfold maxLen; omega) (by rw [HL3.out.2]; omega) ?c5 (wc.heap.size + 1) (by simp) ?_
                                       case c5 =>
                                         have h1 := HL3.out.1.keep.size
                                         have h2 := HT2.out.2.1.size
                                         rw [World.size_alloc]; omega
                                       intro gg cap wg hown8 hgrow hgat hglt
                                       obtain ⟨hr8, hk8⟩ := hpush gg cap wg (kj, e) [.string kj.1, .string kj.2, .slice so5 q sc5, .bool es, .slice prs.1 prs.2.1 prs.2.2, .slice rss.1 rss.2.1 rss.2.2, .slice cs.1 cs.2.1 cs.2.2] rfl
                                         ⟨(so5, q, sc5), prs, rss, cs, by rw [HT2.out.2.2.2], HT2.out.1.act.keep (Keep.alloc _ _ NoB) (fun _ _ h => h.elim) (fun i hi h => by
                                           have h1 := HL3.out.1.keep.size
                                           have h2 := HW.out.1.size
                                           rcases h with h | h
                                           · have := (HL3.out.1.row.lt i h).2; exact .inl (by omega)
                                           · exact .inl (by omega))⟩ hown8 hgrow (by simpa using hgat)
                                       have hne : ¬ OB (.slice so' lA.length sc') w.heap.size := fun h => by
                                         have h1 := (HL3.out.1.row.lt _ h).1
                                         omega
                                       have hb8 := hk8.heap ((Keep.alloc wc (.cells #[.string kj.1, .string kj.2, .slice so5 q sc5, .bool es, .slice prs.1 prs.2.1 prs.2.2, .slice rss.1 rss.2.1 rss.2.2, .slice cs.1 cs.2.1 cs.2.2] 48) NoB).heap HT2.out.2.2.1 (NoB.not _)) hne
                                       have r8 : wg.cell? ⟨w.heap.size, 2, none⟩ = some (.slice so' lA.length sc') := by rw [cell_cells hb8]; rfl
                                       have z8 := frozen_cells hb8 2
                                       have HX := Lib.hid (And.intro hr8 (And.intro hk8 hb8))
                                       clear hr8 hk8 hb8 hown8 hgrow hgat hglt hown hpush hne e0 e1 e2 e3 e4 e5 e6 r0)
                          go_roundg (m3 - (j3 + 1))
                          case measure => omega
                          case rel =>
                            obtain ⟨hr8, hk8, hb8⟩ := HX.out
                            have hkeys := HL3.out.1.keys
                            have ks := Keep.setCell (M := (· = w.heap.size)) wg ⟨w.heap.size, 2, none⟩ (.slice (some ⟨gg, 0, none⟩) (lA.length + 1) cap) (fun _ => rfl)
                            refine ⟨j3 + 1, lA ++ [(kj, e)], _, by omega, by go_num, ?_, setCell_cells hb8 2 _, ?_, ?_, fun p hp => ?_⟩
                            · exact ((HL3.out.1.keep.then HT2.out.2.1).then (Keep.alloc _ _ _)).trans (hk8.trans ks (M'' := fun i => i = w.heap.size ∨ OB (.slice so' lA.length sc') i) (fun _ _ h => .inr h) (fun _ _ h => .inl h)) (fun _ _ h => h) (fun i hi h => by
                                rcases h with h | h
                                · exact h
                                · have := (HL3.out.1.row.lt i h).1; omega)
                            · exact hr8.keep ActC.keeps ks (fun i hi => by
                                have : i = w.heap.size := hi
                                omega)
                            · obtain ⟨hj1, hj2⟩ := List.getElem?_eq_some_iff.1 HQ.out.2.2.2.2.2.2.2.2.1
                              rw [List.map_append, hkeys, List.take_succ_eq_append_getElem hj1, hj2]; rfl
                            · rcases List.mem_append.1 hp with hp | hp
                              · exact HL3.out.1.done p hp
                              · simp only [List.mem_singleton] at hp
                                subst hp
                                exact ⟨y, kget_mem HACT.out.2.2.1.nodup HQ.out.1, HT2.out.1.mean⟩
              · have hjm3 : j3 = m3 := by omega
                subst hjm3
                clear hlt3 hj3
                obtain ⟨so3, sc3, rfl⟩ := HL3.out.1.row.shape
                obtain ⟨wy, rfl⟩ : ∃ wy : World, wy = wr := ⟨_, rfl⟩
                have hb10 := HL3.out.1.res
                have r0 : wy.cell? ⟨w.heap.size, 0, none⟩ = some (.slice so1 lE.length sc1) := by rw [cell_cells hb10]; rfl
                have r1 : wy.cell? ⟨w.heap.size, 1, none⟩ = some (.slice so2 lN.length sc2) := by rw [cell_cells hb10]; rfl
                have r2 : wy.cell? ⟨w.heap.size, 2, none⟩ = some (.slice so3 lA.length sc3) := by rw [cell_cells hb10]; rfl
                have z0 := frozen_cells hb10 0
                have z1 := frozen_cells hb10 1
                have z2 := frozen_cells hb10 2
                clear hb10
                go_wp2_with fail
                have hb10 := HL3.out.1.res
                obtain ⟨wz, hwz, kz, hz, q0, q1, q2⟩ := set3 wy w.heap.size _ (.slice so1 lE.length sc1) (.slice so2 lN.length sc2) (.slice so3 lA.length sc3) hb10
                rw [← hwz]
                clear hwz r0 r1 r2 z0 z1 z2
                obtain ⟨hkn, hp, hpw, hat, k3⟩ := HC.out
                obtain ⟨hkn', hp', hpw', hat', k5⟩ := HC2.out
                obtain ⟨hkn3, hp3, hpw3, hat3, k9, hb9, hsz9⟩ := HC3.out
                have s2 := k3.size
                have s3 := HL.out.1.keep.size
                have s4 := k5.size
                have s5 := HL2.out.1.keep.size
                have k89 : Keep (· = w.heap.size) w8 wz := ((HS3.out.2.1.then k9).first HL3.out.1.keep).trans kz (fun _ _ h => h) (fun _ _ h => h)
                have k49 : Keep (· = w.heap.size) w4 wz := (k5.first HL2.out.1.keep).trans k89 (fun _ _ h => h) (fun _ _ h => h)
                have hrE : RowIs EntC wz w3.heap.size 53 8 (.slice so1 lE.length sc1) lE := HL.out.1.row.keep EntC.keeps k49 (fun i hi => by have : i = w.heap.size := hi; omega)
                have hrN : RowIs EnumC wz w5.heap.size 93 2 (.slice so2 lN.length sc2) lN := HL2.out.1.row.keep EnumC.keeps k89 (fun i hi => by have : i = w.heap.size := hi; omega)
                have hrA : RowIs ActC wz w9.heap.size 48 7 (.slice so3 lA.length sc3) lA := HL3.out.1.row.keep ActC.keeps kz (fun i hi => by have : i = w.heap.size := hi; omega)
                obtain ⟨sE, hsE, hsE2⟩ := hrE.at EntC.keeps (M := (· < w.heap.size)) (fun i hi => by have : i < w.heap.size := hi; omega)
                obtain ⟨sN, hsN, hsN2⟩ := hrN.at EnumC.keeps (M := (· < w.heap.size)) (fun i hi => by have : i < w.heap.size := hi; omega)
                obtain ⟨sA, hsA, hsA2⟩ := hrA.at ActC.keeps (M := (· < w.heap.size)) (fun i hi => by have : i < w.heap.size := hi; omega)
                rw [hsE] at q0
                rw [hsN] at q1
                rw [hsA] at q2
                have hkE : lE.map (·.1) = ks := by rw [HL.out.1.keys, hkn, List.take_length]
                have hkN : lN.map (·.1) = ks' := by rw [HL2.out.1.keys, hkn', List.take_length]
                have hkA : lA.map (·.1) = ks3 := by rw [HL3.out.1.keys, hkn3, List.take_length]
                have kw : Keep NoB w wz := ((HB.out.2.then HP.out.1).then k3).trans (HL.out.1.keep.trans k49 (M'' := (· = w.heap.size)) (fun _ _ h => h) (fun _ _ h => h)) (fun _ _ h => h) (fun i hi h => by omega)
                refine bodyPost_ret (v := .tuple #[.agg #[slV sE, slV sN, slV sA], .bool true, .bool false]) ?_ rfl (.inr ⟨HG.out.1, V, HG.out.2.1, HAC.out, HG.out.2.2.1, HG.out.2.2.2.1, HACT.out.2.2.2.2.2.2.1, HACT.out.2.2.2.2.2.2.2, ⟨RA, HACT.out.2.2.2.2.1, HACT.out.2.2.2.2.2.1⟩, lE, lN, lA, sE, sN, sA, rfl, hsE2, hsN2, hsA2, ⟨by rw [hkE]; exact hpw, by rw [hkE]; exact hp.nodup_iff.2 HE.out.1.nodup⟩, ⟨by rw [hkN]; exact hpw', by rw [hkN]; exact hp'.nodup_iff.2 HN.out.1.nodup⟩, ⟨by rw [hkA]; exact hpw3, by rw [hkA]; exact hp3.nodup_iff.2 HACT.out.1.nodup⟩, fun p hpm => ?_, fun x y hxy => ?_, fun p hpm => ?_, fun x y hxy => ?_, fun p hpm => ?_, fun x y hxy => ?_, kw⟩)
                · simp [results, Tryz.results6, go_sem, q0, q1, q2, Result.andThen]
                · obtain ⟨y, hy, hym⟩ := HL.out.1.done p hpm
                  exact ⟨y, HE.out.2.2.2.2.2.back _ _ hy, hym⟩
                · have h1 := HE.out.2.2.2.2.2.has x y hxy
                  rw [hkE]
                  refine hp.mem_iff.2 ((HE.out.2.1.back HE.out.1.nodup).2.mem_iff.2 ?_)
                  obtain ⟨z, hz⟩ := Option.isSome_iff_exists.1 h1
                  exact List.mem_map.2 ⟨_, kget_some hz, rfl⟩
                · obtain ⟨y, hy, hym⟩ := HL2.out.1.done p hpm
                  exact ⟨y.1, by rw [hym]; exact HN.out.2.2.2.1.back _ _ hy⟩
                · have h1 := HN.out.2.2.2.1.has x y hxy
                  rw [hkN]
                  refine hp'.mem_iff.2 ((HN.out.2.1.back HN.out.1.nodup).2.mem_iff.2 ?_)
                  obtain ⟨z, hz⟩ := Option.isSome_iff_exists.1 h1
                  exact List.mem_map.2 ⟨_, kget_some hz, rfl⟩
                · obtain ⟨y, hy, hym⟩ := HL3.out.1.done p hpm
                  exact ⟨y, HACT.out.2.2.2.2.1.made.back _ _ hy, hym⟩
                · have h1 := HACT.out.2.2.2.2.1.made.has x y hxy
                  rw [hkA]
                  refine hp3.mem_iff.2 ((HACT.out.2.2.1.back HACT.out.1.nodup).2.mem_iff.2 ?_)
                  obtain ⟨z, hz⟩ := Option.isSome_iff_exists.1 h1
                  exact List.mem_map.2 ⟨_, kget_some hz, rfl⟩
end Go.Proofs.YtedgonoeeeiilaaGreatDoor
