/- FnResolveAction, the plain law: an action that applies to types of its own namespace. -/
import Derived.Test.YtedgonoeeeiilaaGreatDoorPl
import Derived.Test.YtedgonoeeeiilaaGreatDoorDig
namespace Go.Proofs.YtedgonoeeeiilaaGreatDoor
open Go.RowKit

/-! ### names -/
def acS (b : Bool) : Str := if b then ⟨#[78]⟩ else ⟨#[]⟩
/-- "E" and a digit -/
def eN (k : Nat) : Str := ⟨#[69, dg k]⟩
theorem eN_eq {k : Nat} (h : k < 10) : (⟨#[69]⟩ : Str) ++ digS k 1 = eN k := by
  unfold eN digS
  rw [dig_step (by omega), show k / 10 = 0 by omega, dig, dif_pos ⟨rfl, rfl⟩]; rfl
def wN (b : Bool) (k : Nat) : Str := qual (acS b) (eN k)
theorem eN_inj : ∀ i < 5, ∀ j < 5, eN i = eN j → i = j := by decide +kernel
theorem wN_inj : ∀ b, ∀ i < 5, ∀ j < 5, wN b i = wN b j → i = j := by decide +kernel
theorem wN_le : ∀ b, ∀ i < 5, ∀ j < 5, i < j → (wN b i).data.toList ≤ (wN b j).data.toList := by decide +kernel
theorem wN_size : ∀ b, ∀ i < 5, (wN b i).size ≤ 5 := by decide +kernel
theorem eN_size : ∀ i < 5, (eN i).size ≤ 5 := by decide +kernel
theorem eN_sub : ∀ i < 5, hasSub (eN i) ⟨#[58, 58]⟩ = false := by decide +kernel
theorem wN_sub : ∀ i < 5, hasSub (wN true i) ⟨#[58, 58]⟩ = true := by decide +kernel
theorem wN_false (k : Nat) : wN false k = eN k := by
  unfold wN
  exact qual0 _
theorem acS_size (b : Bool) : (acS b).size ≤ 1 := by cases b <;> decide
theorem map_nodup {α : Type} {f : Nat → α} {n : Nat} (h : ∀ i < n, ∀ j < n, f i = f j → i = j) : ((List.range n).map f).Nodup :=
  List.pairwise_map.2 (List.Pairwise.imp_of_mem (fun {a b} ha hb hne e => hne (h a (List.mem_range.1 ha) b (List.mem_range.1 hb) e)) (List.nodup_range (n := n)))

/-! ### the data -/
def acE (j : Nat) : List (Str × IEnt) := (List.range j).map fun k => (eN k, ⟨[], [], none⟩)
def acW (b : Bool) (j : Nat) : List (Str × IEnt) := (List.range j).map fun k => (wN b k, ⟨[], [], none⟩)
def wNs (b : Bool) (j : Nat) : List Str := (List.range j).map (wN b)
def acRef (b bare : Bool) (k : Nat) : Str := if bare then eN k else wN b k
def acRefs (b bare : Bool) (j : Nat) : List Str := (List.range j).map (acRef b bare)
def acA (b bare : Bool) (n : Nat) : AAct := ⟨[], some (acRefs b bare n, acRefs b bare n, none)⟩
def acL (b bare : Bool) (n : Nat) (nm : Str) : List ISp := [⟨acS b, acE n, [], [], [(nm, acA b bare n)]⟩]
def acX (b bare : Bool) (n : Nat) (nm : Str) : SpD := spOf (acE n) [] [] [(nm, acA b bare n)]
def acD (b bare : Bool) (n : Nat) (nm : Str) : Str → SpD := fun _ => acX b bare n nm
def acO (b : Bool) (n : Nat) : OAct := ⟨[], some (wNs b n, wNs b n, [])⟩
section
variable {b bare : Bool} {n : Nat} {nm : Str}
theorem ac_bareT : bareSp (acL true bare n nm) = spOf [] [] [] [] := rfl
theorem ac_bareF : bareSp (acL false bare n nm) = acX false bare n nm := rfl
theorem ac_namedT : namedSp (acL true bare n nm) = [⟨#[78]⟩] := by
  have h : ¬ acS true = ⟨#[]⟩ := by decide
  unfold namedSp acL
  simp [h]
  rfl
theorem ac_namedF : namedSp (acL false bare n nm) = [] := by
  have h : acS false = ⟨#[]⟩ := by decide
  unfold namedSp acL
  simp [h]
theorem acX_en : (acX b bare n nm).en = (List.range n).map eN := by
  show (acE n).map (·.1) = _
  unfold acE; rw [List.map_map]; rfl
theorem acE_nodup (hn : n ≤ 5) : ((acE n).map (·.1)).Nodup := by
  have h : (acE n).map (·.1) = (List.range n).map eN := by unfold acE; rw [List.map_map]; rfl
  rw [h]
  exact map_nodup fun i hi j hj e => eN_inj i (by omega) j (by omega) e
theorem acX_AE (hn : n ≤ 5) {k : Nat} (hk : k < n) : (acX b bare n nm).AE (eN k) = ⟨[], none, none⟩ := by
  show ((kget (acE n) (eN k)).getD _).ast = _
  rw [kget_mem (acE_nodup hn) (show (eN k, (⟨[], [], none⟩ : IEnt)) ∈ acE n from List.mem_map.2 ⟨k, List.mem_range.2 hk, rfl⟩)]
  simp [IEnt.ast]
theorem acX_an : (acX b bare n nm).an = [nm] := rfl
theorem acX_AA : (acX b bare n nm).AA nm = acA b bare n := by
  show (kget [(nm, acA b bare n)] nm).getD _ = _
  simp [kget]
theorem acX_nn : (acX b bare n nm).nn = [] := rfl
theorem acX_cn : (acX b bare n nm).cn = [] := rfl

theorem ac_ents (hn : n ≤ 5) {V : Env} {f : Nat} (x : Str) (y : REnt) : EntsOf V f (bareSp (acL b bare n nm)) (acD b bare n nm) (· ∈ namedSp (acL b bare n nm)) x y ↔ ∃ k, k < n ∧ x = wN b k ∧ y = ⟨wN b k, [], none, none⟩ := by
  have key : ∀ s m, m ∈ (acX b bare n nm).en → ∃ k, k < n ∧ m = eN k ∧ REntOf V f s m ((acX b bare n nm).AE m) = ⟨qual s (eN k), [], none, none⟩ := fun s m hm => by
    rw [acX_en] at hm
    obtain ⟨k, hk, rfl⟩ := List.mem_map.1 hm
    have hk' := List.mem_range.1 hk
    exact ⟨k, hk', rfl, by rw [acX_AE hn hk', REntOf_zero]⟩
  have back : ∀ s k, k < n → eN k ∈ (acX b bare n nm).en ∧ REntOf V f s (eN k) ((acX b bare n nm).AE (eN k)) = ⟨qual s (eN k), [], none, none⟩ := fun s k hk =>
    ⟨by rw [acX_en]; exact List.mem_map.2 ⟨k, List.mem_range.2 hk, rfl⟩, by rw [acX_AE hn hk, REntOf_zero]⟩
  unfold EntsOf acD
  cases b
  · rw [ac_bareF, ac_namedF]
    constructor
    · rintro (⟨m, hm, h1, h2⟩ | ⟨t, ht, _⟩)
      · obtain ⟨k, hk, rfl, e⟩ := key ⟨#[]⟩ m hm
        exact ⟨k, hk, h1, by rw [h2, e]; rfl⟩
      · simp at ht
    · rintro ⟨k, hk, rfl, rfl⟩
      obtain ⟨h1, h2⟩ := back ⟨#[]⟩ k hk
      exact .inl ⟨eN k, h1, rfl, by rw [h2]; rfl⟩
  · rw [ac_bareT, ac_namedT]
    constructor
    · rintro (⟨m, hm, _⟩ | ⟨t, ht, m, hm, h1, h2⟩)
      · simp [spOf] at hm
      · simp only [List.mem_singleton] at ht
        subst ht
        obtain ⟨k, hk, rfl, e⟩ := key _ m hm
        exact ⟨k, hk, h1, by rw [h2, e]; rfl⟩
    · rintro ⟨k, hk, rfl, rfl⟩
      obtain ⟨h1, h2⟩ := back ⟨#[78]⟩ k hk
      exact .inr ⟨⟨#[78]⟩, by simp, eN k, h1, rfl, by rw [h2]; rfl⟩
theorem ac_known (_hn : n ≤ 5) {V : Env} (hV : EnvIs (bareSp (acL b bare n nm)) (acD b bare n nm) (· ∈ namedSp (acL b bare n nm)) V) {k : Nat} (hk : k < n) : V.known (wN b k) := by
  refine .inl ((hV.ents _).2 ?_)
  have h : eN k ∈ (acX b bare n nm).en := by rw [acX_en]; exact List.mem_map.2 ⟨k, List.mem_range.2 hk, rfl⟩
  cases b
  · rw [ac_bareF]
    exact .inl (by rw [wN_false]; exact h)
  · rw [ac_namedT]
    exact .inr ⟨⟨#[78]⟩, by simp, eN k, h, rfl⟩
theorem ac_ref (hn : n ≤ 5) {V : Env} (hV : EnvIs (bareSp (acL b bare n nm)) (acD b bare n nm) (· ∈ namedSp (acL b bare n nm)) V) {k : Nat} (hk : k < n) : entRef V (acS b) (acRef b bare k) = some (wN b k) := by
  have hkn := ac_known hn hV hk
  unfold entRef acRef
  cases b
  · rw [wN_false] at hkn ⊢
    have h0 : (if bare = true then eN k else eN k) = eN k := by split <;> rfl
    rw [h0, if_neg (by rw [eN_sub k (by omega)]; decide), if_neg (fun h => h.1 rfl), if_pos hkn]
  · cases bare
    · have h0 : (if false = true then eN k else wN true k) = wN true k := rfl
      rw [h0, if_pos (wN_sub k (by omega)), if_pos hkn]
    · have hs : ¬ acS true = ByteArray.empty := by decide
      rw [if_pos rfl, if_neg (by rw [eN_sub k (by omega)]; decide), if_pos ⟨hs, hkn⟩]
      rfl
theorem mapM_range {α β : Type} {f : α → Option β} {g : Nat → α} {h : Nat → β} : ∀ {l : List Nat}, (∀ k ∈ l, f (g k) = some (h k)) → (l.map g).mapM f = some (l.map h)
  | [], _ => rfl
  | k :: l, hk => by
    rw [List.map_cons, List.mapM_cons, hk k (by simp), mapM_range fun j hj => hk j (List.mem_cons_of_mem _ hj)]
    rfl
theorem ac_resAct (hn : n ≤ 5) {V : Env} (hV : EnvIs (bareSp (acL b bare n nm)) (acD b bare n nm) (· ∈ namedSp (acL b bare n nm)) V) (f : Nat) : resAct V f (acS b) nm (acA b bare n) = some (some ⟨(actionTy (acS b), nm), [], some (wNs b n, wNs b n, [])⟩) := by
  have h : (acRefs b bare n).mapM (entRef V (acS b)) = some (wNs b n) := mapM_range fun k hk => ac_ref hn hV (List.mem_range.1 hk)
  unfold resAct resTo acA
  simp only [resCtx, Option.map_some, h, Option.bind_some]
  rfl
theorem ac_names {S : Str} (hs : S ∈ namedSp (acL b bare n nm)) : b = true ∧ S = acS b := by
  cases b
  · rw [ac_namedF] at hs; simp at hs
  · rw [ac_namedT] at hs
    simp only [List.mem_singleton] at hs
    exact ⟨rfl, hs⟩
theorem ac_an {m : Str} (hm : m ∈ (bareSp (acL b bare n nm)).an) : b = false ∧ m = nm ∧ (bareSp (acL b bare n nm)).AA m = acA b bare n := by
  cases b
  · rw [ac_bareF, acX_an] at hm
    simp only [List.mem_singleton] at hm
    subst hm
    exact ⟨rfl, rfl, by rw [ac_bareF]; exact acX_AA⟩
  · rw [ac_bareT] at hm; simp [spOf] at hm
theorem ac_anD {t m : Str} (hm : m ∈ (acD b bare n nm t).an) : m = nm ∧ (acD b bare n nm t).AA m = acA b bare n := by
  have hm' : m ∈ (acX b bare n nm).an := hm
  rw [acX_an] at hm'
  simp only [List.mem_singleton] at hm'
  subst hm'
  exact ⟨rfl, acX_AA⟩
theorem ac_actB (hn : n ≤ 5) {V : Env} (hV : EnvIs (bareSp (acL b bare n nm)) (acD b bare n nm) (· ∈ namedSp (acL b bare n nm)) V) (f : Nat) {m : Str} (hm : m ∈ (bareSp (acL b bare n nm)).an) : ∃ x, resAct V f ⟨#[]⟩ m ((bareSp (acL b bare n nm)).AA m) = some (some x) := by
  obtain ⟨h1, rfl, h3⟩ := ac_an hm
  rw [h3]
  have := ac_resAct hn hV f
  subst h1
  exact ⟨_, this⟩
theorem ac_actD (hn : n ≤ 5) {V : Env} (hV : EnvIs (bareSp (acL b bare n nm)) (acD b bare n nm) (· ∈ namedSp (acL b bare n nm)) V) (f : Nat) {t m : Str} (ht : t ∈ namedSp (acL b bare n nm)) (hm : m ∈ (acD b bare n nm t).an) : ∃ x, resAct V f t m ((acD b bare n nm t).AA m) = some (some x) := by
  obtain ⟨_, rfl⟩ := ac_names ht
  obtain ⟨rfl, h3⟩ := ac_anD hm
  rw [h3]
  exact ⟨_, ac_resAct hn hV f⟩
theorem ac_entB {V : Env} {f : Nat} (hn : n ≤ 5) {m : Str} (hm : m ∈ (bareSp (acL b bare n nm)).en) : ∃ x, resEnt V f ⟨#[]⟩ m ((bareSp (acL b bare n nm)).AE m) = some (some x) := by
  cases b
  · rw [ac_bareF, acX_en] at hm
    obtain ⟨k, hk, rfl⟩ := List.mem_map.1 hm
    rw [ac_bareF, acX_AE hn (List.mem_range.1 hk)]
    exact ⟨_, resEnt_zero _ _ _ _⟩
  · rw [ac_bareT] at hm; simp [spOf] at hm
theorem ac_entD {V : Env} {f : Nat} (hn : n ≤ 5) {t m : Str} (hm : m ∈ (acD b bare n nm t).en) : ∃ x, resEnt V f t m ((acD b bare n nm t).AE m) = some (some x) := by
  have hm' : m ∈ (acX b bare n nm).en := hm
  rw [acX_en] at hm'
  obtain ⟨k, hk, rfl⟩ := List.mem_map.1 hm'
  have : (acD b bare n nm t).AE (eN k) = ⟨[], none, none⟩ := acX_AE hn (List.mem_range.1 hk)
  rw [this]
  exact ⟨_, resEnt_zero _ _ _ _⟩
theorem ac_acts (hn : n ≤ 5) {V : Env} (hV : EnvIs (bareSp (acL b bare n nm)) (acD b bare n nm) (· ∈ namedSp (acL b bare n nm)) V) {f : Nat} (x : Uid) (y : RAct) :
    ActsOf V f (bareSp (acL b bare n nm)) (acD b bare n nm) (· ∈ namedSp (acL b bare n nm)) x y ↔ x = (actionTy (acS b), nm) ∧ y = ⟨(actionTy (acS b), nm), [], some (wNs b n, wNs b n, [])⟩ := by
  have key : RActOf V f (acS b) nm (acA b bare n) = ⟨(actionTy (acS b), nm), [], some (wNs b n, wNs b n, [])⟩ := by
    unfold RActOf; rw [ac_resAct hn hV f]; rfl
  unfold ActsOf
  constructor
  · rintro (⟨m, hm, h1, h2⟩ | ⟨t, ht, m, hm, h1, h2⟩)
    · obtain ⟨e1, rfl, e3⟩ := ac_an hm
      rw [e3] at h2
      subst e1
      exact ⟨h1, by rw [h2]; exact key⟩
    · obtain ⟨_, rfl⟩ := ac_names ht
      obtain ⟨rfl, e3⟩ := ac_anD hm
      rw [e3] at h2
      exact ⟨h1, by rw [h2]; exact key⟩
  · rintro ⟨rfl, rfl⟩
    cases b
    · exact .inl ⟨nm, by rw [ac_bareF, acX_an]; simp, rfl, by rw [ac_bareF, acX_AA]; exact key.symm⟩
    · refine .inr ⟨acS true, by rw [ac_namedT]; exact List.mem_singleton.2 rfl, nm, by show nm ∈ (acX true bare n nm).an; rw [acX_an]; simp, rfl, ?_⟩
      show _ = RActOf V f (acS true) nm ((acX true bare n nm).AA nm)
      rw [acX_AA]; exact key.symm
theorem ac_enums {x : Str} {y : Str × List Str} : ¬ EnumsOf (bareSp (acL b bare n nm)) (acD b bare n nm) (· ∈ namedSp (acL b bare n nm)) x y := by
  rintro (⟨m, hm, _⟩ | ⟨t, _, m, hm, _⟩)
  · cases b
    · rw [ac_bareF, acX_nn] at hm; simp at hm
    · rw [ac_bareT] at hm; simp [spOf] at hm
  · have hm' : m ∈ (acX b bare n nm).nn := hm
    rw [acX_nn] at hm'; simp at hm'
theorem ac_cn : (bareSp (acL b bare n nm)).cn = [] := by
  cases b
  · rw [ac_bareF, acX_cn]
  · rw [ac_bareT]; rfl
theorem ac_wrong (_hn : n ≤ 5) : ¬ Wrong (bareSp (acL b bare n nm)) (acD b bare n nm) (namedSp (acL b bare n nm)) := by
  unfold Wrong
  rintro (⟨m, h1, h2⟩ | ⟨t, ht, m, h1, h2⟩ | ⟨t, ht, h⟩)
  · cases b
    · rw [ac_bareF, acX_nn] at h2; simp at h2
    · rw [ac_bareT] at h1; simp [spOf] at h1
  · have h2' : m ∈ (acX b bare n nm).nn := h2
    rw [acX_nn] at h2'; simp at h2'
  · obtain ⟨rfl, rfl⟩ := ac_names ht
    rw [ac_bareT] at h
    rcases h with ⟨x, h1, h2⟩ | ⟨x, h1, h2⟩ <;> simp [spOf] at h2
theorem ac_acyc {V : Env} (hV : EnvIs (bareSp (acL b bare n nm)) (acD b bare n nm) (· ∈ namedSp (acL b bare n nm)) V) : Acyc V := acyc_none (hV.noC ac_cn fun _ _ => rfl)
theorem ac_ok (hn : n ≤ 5) : ResOk (acL b bare n nm) (acD b bare n nm) 1 := by
  refine ⟨ComOk.none ac_cn fun _ _ => rfl, fun V hV _ => ⟨fun m hm => ?_, fun t ht m hm => ?_, fun m hm => ?_, fun t ht m hm => ?_⟩, fun V hV _ x y h => ?_, ⟨wNs b n, by unfold wNs; simp; omega, fun m hm => ?_, fun V hV _ x y h => ?_⟩, ⟨[], by simp, fun m hm => by simp at hm, fun x y h => (ac_enums h).elim⟩, fun V hV _ x y h => ?_, ⟨[(actionTy (acS b), nm)], by simp, fun V hV _ x y h => ?_⟩⟩
  · obtain ⟨x, hx⟩ := ac_entB (V := V) (f := 1) hn hm; exact ⟨_, hx⟩
  · obtain ⟨x, hx⟩ := ac_entD (V := V) (f := 1) hn hm; exact ⟨_, hx⟩
  · obtain ⟨x, hx⟩ := ac_actB hn hV 1 hm; exact ⟨_, hx⟩
  · obtain ⟨x, hx⟩ := ac_actD hn hV 1 ht hm; exact ⟨_, hx⟩
  · obtain ⟨k, hk, rfl, rfl⟩ := (ac_ents hn x y).1 h
    exact ⟨by simp, fun t h => by simp at h, fun t h => by simp at h⟩
  · obtain ⟨k, hk, rfl⟩ := List.mem_map.1 hm
    have := wN_size b k (by have := List.mem_range.1 hk; omega)
    omega
  · obtain ⟨k, hk, rfl, rfl⟩ := (ac_ents hn x y).1 h
    exact List.mem_map.2 ⟨k, List.mem_range.2 hk, rfl⟩
  · obtain ⟨rfl, rfl⟩ := (ac_acts hn hV x y).1 h
    refine ⟨by simp, fun x hx => ?_⟩
    simp only [Option.some.injEq] at hx
    subst hx
    refine ⟨by unfold wNs; simp; omega, by unfold wNs; simp; omega, ?_⟩
    exact .record (by simp) (fun k t o h => by simp at h) (fun k t o h => by simp at h)
  · obtain ⟨rfl, rfl⟩ := (ac_acts hn hV x y).1 h
    simp

/-! ### what comes back -/
theorem meant_nil {l' : List (Str × ATy × Bool)} (h : Meant (.record []) (.record l')) : l' = [] := by
  cases h with
  | record f h1 h2 h3 h4 =>
    have := h2.length_eq
    simp at this
    exact this
theorem ac_good (hn : n ≤ 5) {V : Env} (hV : EnvIs (bareSp (acL b bare n nm)) (acD b bare n nm) (· ∈ namedSp (acL b bare n nm)) V) {f : Nat} {RA : List (Uid × RAct)} (h : ActsAre (bareSp (acL b bare n nm)) (acD b bare n nm) (· ∈ namedSp (acL b bare n nm)) V f RA) : ¬ BadMem RA := by
  have hp : ∀ x, parU RA x = [] := fun x => by
    unfold parU
    cases hg : kget RA x with
    | none => rfl
    | some y =>
      obtain ⟨_, rfl⟩ := (ac_acts hn hV _ _).1 (h.made.back _ _ hg)
      rfl
  rintro (⟨u, a, hu, p, hpa, _⟩ | ⟨x, hx⟩)
  · obtain ⟨_, rfl⟩ := (ac_acts hn hV _ _).1 (h.made.back _ _ hu)
    simp at hpa
  · refine hx ⟨_, fun p hpp => ?_⟩
    have hpp' : p ∈ parU RA x := hpp
    rw [hp] at hpp'; simp at hpp'
theorem ac_unres (hn : n ≤ 5) {V : Env} (hV : EnvIs (bareSp (acL b bare n nm)) (acD b bare n nm) (· ∈ namedSp (acL b bare n nm)) V) {f : Nat} : ¬ Unres (bareSp (acL b bare n nm)) (acD b bare n nm) (namedSp (acL b bare n nm)) V f := by
  rintro (⟨m, hm, h⟩ | ⟨t, ht, m, hm, h⟩ | ⟨m, hm, h⟩ | ⟨t, ht, m, hm, h⟩)
  · obtain ⟨x, hx⟩ := ac_entB (V := V) (f := f) hn hm; rw [hx] at h; cases h
  · obtain ⟨x, hx⟩ := ac_entD (V := V) (f := f) hn hm; rw [hx] at h; cases h
  · obtain ⟨x, hx⟩ := ac_actB hn hV f hm; rw [hx] at h; cases h
  · obtain ⟨x, hx⟩ := ac_actD hn hV f ht hm; rw [hx] at h; cases h
theorem ient_of {y : REnt} {e : IEnt} {x : Str} (h : MeantEnt y e) (hy : y = ⟨x, [], none, none⟩) : e = ⟨[], [], none⟩ := by
  subst hy
  obtain ⟨h1, ⟨l, h2, h3⟩, h4⟩ := h
  obtain ⟨ps, ats, tg⟩ := e
  have h2' : l = [] := h2
  subst h2'
  have h5 := meant_nil h3
  have h1' : ps = [] := h1
  have h5' : ats = [] := h5
  subst h1' h5'
  cases tg with
  | none => rfl
  | some t => exact h4.elim
theorem oact_of {y : RAct} {a : OAct} {u : Uid} {l1 l2 : List Str} (h : MeantAct y a) (hy : y = ⟨u, [], some (l1, l2, [])⟩) : a = ⟨[], some (l1, l2, [])⟩ := by
  subst hy
  obtain ⟨h1, _, _, h4⟩ := h
  obtain ⟨ps, ap⟩ := a
  have hps : ps = [] := by
    match ps, h1 with
    | [], _ => rfl
    | p :: r, h1 => exact absurd ((h1 p).1 (by simp)) (by simp)
  subst hps
  cases ap with
  | none => exact h4.elim
  | some q =>
    obtain ⟨q1, q2, q3⟩ := q
    obtain ⟨e1, e2, e3⟩ := h4
    have e1' : q1 = l1 := e1
    have e2' : q2 = l2 := e2
    have e3' : q3 = [] := meant_nil e3
    subst e1' e2' e3'
    rfl
theorem list_keyed {α β : Type} (v : α → β) : ∀ {l : List (α × β)}, (∀ p ∈ l, p.2 = v p.1) → l = (l.map (·.1)).map fun k => (k, v k)
  | [], _ => rfl
  | p :: l, h => by
    rw [List.map_cons, List.map_cons, ← list_keyed v fun q hq => h q (List.mem_cons_of_mem _ hq), ← h p (by simp)]
theorem ac_post (hn : n ≤ 5) {w w' : World} {e : Ending} (h : ImplPost (acL b bare n nm) (acD b bare n nm) 1 w e w') :
    ∃ (sE sN sA : Sl), e = .returned (.tuple #[.agg #[slV sE, slV sN, slV sA], .bool true, .bool false]) ∧ RowAt EntC 8 w' (· < w.heap.size) (acW b n) sE ∧ sN.2.1 = 0 ∧ RowAt ActC 7 w' (· < w.heap.size) [((actionTy (acS b), nm), acO b n)] sA ∧ Keep NoB w w' := by
  rcases h with ⟨_, hbad, _⟩ | ⟨_, V, hV, _, _, _, _, _, _, lE, lN, lA, sE, sN, sA, he, hrE, hrN, hrA, ⟨hordE, hnodE⟩, _, ⟨_, hnodA⟩, hfE, htE, hfN, _, hfA, htA, hk⟩
  · exfalso
    rcases hbad with hbad | ⟨V, hV, hbad⟩
    · exact ac_wrong hn hbad
    · rcases (hbad.resolve_left (fun q => q (ac_acyc hV))).2 with h1 | ⟨RA, h1, h2⟩
      · exact ac_unres hn hV h1
      · exact ac_good hn hV h1 h2
  · have hN : lN = [] := by
      cases lN with
      | nil => rfl
      | cons p l =>
        obtain ⟨q, hq⟩ := hfN p (by simp)
        exact (ac_enums hq).elim
    have hkE : lE.map (·.1) = wNs b n := by
      refine List.Perm.eq_of_pairwise (le := leS) (fun _ _ _ _ h1 h2 => leS_antisymm h1 h2) hordE ?_ ?_
      · refine List.pairwise_map.2 (List.Pairwise.imp_of_mem (fun {i j} hi hj h => ?_) (List.pairwise_lt_range (n := n)))
        exact wN_le b i (by have := List.mem_range.1 hi; omega) j (by have := List.mem_range.1 hj; omega) h
      · refine (List.perm_ext_iff_of_nodup hnodE (map_nodup fun i hi j hj e => wN_inj b i (by omega) j (by omega) e)).2 fun u => ⟨fun hu => ?_, fun hu => ?_⟩
        · obtain ⟨p, hp, rfl⟩ := List.mem_map.1 hu
          obtain ⟨y, hy, _⟩ := hfE p hp
          obtain ⟨k, hk, e, _⟩ := (ac_ents hn _ _).1 hy
          exact List.mem_map.2 ⟨k, List.mem_range.2 hk, e.symm⟩
        · obtain ⟨k, hk, rfl⟩ := List.mem_map.1 hu
          exact htE _ _ ((ac_ents hn _ _).2 ⟨k, List.mem_range.1 hk, rfl, rfl⟩)
    have hE : lE = acW b n := by
      rw [list_keyed (fun _ => (⟨[], [], none⟩ : IEnt)) (l := lE) fun p hp => by
        obtain ⟨y, hy, hm⟩ := hfE p hp
        obtain ⟨k, _, _, e2⟩ := (ac_ents hn _ _).1 hy
        exact ient_of hm e2, hkE]
      unfold wNs acW
      rw [List.map_map]; rfl
    have hone : ∀ p ∈ lA, p = ((actionTy (acS b), nm), acO b n) := fun p hp => by
      obtain ⟨y, hy, hm⟩ := hfA p hp
      obtain ⟨e1, e2⟩ := (ac_acts hn hV _ _).1 hy
      exact Prod.ext e1 (oact_of hm e2)
    have hA : lA = [((actionTy (acS b), nm), acO b n)] := by
      have hmem := htA _ _ ((ac_acts hn hV (f := 1) _ _).2 ⟨rfl, rfl⟩)
      match lA, hnodA, hmem, hone with
      | [r], _, _, hone => rw [hone r (by simp)]
      | r :: t :: l, hnd, _, hone =>
        have h1 := hone r (by simp)
        have h2 := hone t (by simp)
        subst h1 h2
        simp at hnd
    subst hN hE hA
    exact ⟨sE, sN, sA, he, hrE, hrN.1, hrA, hk⟩
end
end Go.Proofs.YtedgonoeeeiilaaGreatDoor
