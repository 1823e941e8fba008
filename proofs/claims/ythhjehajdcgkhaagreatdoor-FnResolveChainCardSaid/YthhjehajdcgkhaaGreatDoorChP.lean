/- FnResolveChain, the plain law: common types of which each one is a set of the next one. -/
import Derived.Test.YthhjehajdcgkhaaGreatDoorShP
namespace Go.Proofs.YthhjehajdcgkhaaGreatDoor
open Go.RowKit

/-! ### names -/
/-- "T" and digits -/
def tN (k : Nat) : Str := if k < 10 then ⟨#[84, dg k]⟩ else ⟨#[84, dg (k / 10), dg k]⟩
theorem tN_eq {k : Nat} (h : k < 100) : (⟨#[84]⟩ : Str) ++ digS k 1 = tN k := by
  unfold tN digS
  by_cases h1 : k < 10
  · rw [if_pos h1, dig_step (by omega), show k / 10 = 0 by omega, dig, dif_pos ⟨rfl, rfl⟩]; rfl
  · rw [if_neg h1, dig_step (by omega), dig_step (n := k / 10) (by omega), show k / 10 / 10 = 0 by omega, dig, dif_pos ⟨rfl, rfl⟩]; rfl
theorem tN_inj : ∀ i < 50, ∀ j < 50, tN i = tN j → i = j := by decide +kernel
theorem tN_nc : ∀ i < 51, (58 : UInt8) ∉ (tN i).data.toList := by decide +kernel
theorem tN_size : ∀ i < 51, (tN i).size ≤ 3 := by decide +kernel
theorem tN_long : ∀ i < 50, tN i ≠ ⟨#[76, 111, 110, 103]⟩ := by decide +kernel
theorem tN_E : ∀ i < 50, tN i ≠ ⟨#[69]⟩ := by decide +kernel
theorem tN_ns : ∀ i < 50, nsOf (⟨#[78]⟩ ++ ⟨#[58, 58]⟩ ++ tN i) = ⟨#[78]⟩ := by decide +kernel
theorem tN_hasSub {i : Nat} (h : i < 51) : hasSub (tN i) ⟨#[58, 58]⟩ = false := hasSub_nc (tN_nc i h)
theorem long_hasSub : hasSub ⟨#[76, 111, 110, 103]⟩ ⟨#[58, 58]⟩ = false := by decide +kernel
theorem long_ne : ∀ i < 50, qual ⟨#[78]⟩ (tN i) ≠ ⟨#[76, 111, 110, 103]⟩ := fun i hi e => qualN_ne (s := tN i) (show (58 : UInt8) ∉ _ by decide) e
theorem qlong_ne : ∀ i < 50, qual ⟨#[78]⟩ (tN i) ≠ qual ⟨#[78]⟩ ⟨#[76, 111, 110, 103]⟩ := fun i hi e => tN_long i hi (qualN_inj e)

/-! ### the data -/
section
variable (n : Nat) (tg : Option Nat)
/-- what the last one is a set of -/
def lastN : Str := match tg with
  | none => ⟨#[76, 111, 110, 103]⟩
  | some b => tN b
def chT (k : Nat) : ATy := .set (.ref (if k + 1 = n then lastN tg else tN (k + 1)))
def chC (j : Nat) : List (Str × ATy) := (List.range j).map fun k => (tN k, chT n tg k)
def chE : IEnt := ⟨[], [(⟨#[97]⟩, .ref ⟨#[84, 48]⟩, false)], none⟩
def chX : List (Str × IEnt) := [(⟨#[69]⟩, chE)]
def chL : List ISp := [⟨⟨#[78]⟩, chX, [], chC n tg n⟩]
def chD : Str → SpD := fun _ => spOf chX [] (chC n tg n)
theorem ch_bare : bareSp (chL n tg) = spOf [] [] [] := by
  unfold bareSp chL
  simp only [List.foldl_cons, List.foldl_nil]
  rw [if_neg (by decide : ¬ (⟨#[78]⟩ : Str) = ⟨#[]⟩)]
theorem ch_named : namedSp (chL n tg) = [⟨#[78]⟩] := by
  unfold namedSp chL
  have h : (⟨#[78]⟩ : Str) ≠ ⟨#[]⟩ := by decide
  simp [h]
theorem ch_en : (chD n tg ⟨#[78]⟩).en = [⟨#[69]⟩] := rfl
theorem ch_cn : (chD n tg ⟨#[78]⟩).cn = (List.range n).map tN := by
  show (chC n tg n).map (·.1) = _
  unfold chC; rw [List.map_map]; rfl
variable {n : Nat} {tg : Option Nat}
theorem chC_nodup (hn : n ≤ 50) (j : Nat) (hj : j ≤ n) : ((chC n tg j).map (·.1)).Nodup := by
  unfold chC
  rw [List.map_map]
  refine List.pairwise_map.2 (List.Pairwise.imp_of_mem (fun {a b} ha hb h e => ?_) (List.nodup_range (n := j)))
  exact h (tN_inj a (by have := List.mem_range.1 ha; omega) b (by have := List.mem_range.1 hb; omega) e)
theorem ch_CT (hn : n ≤ 50) {k : Nat} (hk : k < n) : (chD n tg ⟨#[78]⟩).CT (tN k) = chT n tg k := by
  show (kget (chC n tg n) (tN k)).getD .str = _
  rw [kget_mem (chC_nodup hn n (Nat.le_refl _)) (show (tN k, chT n tg k) ∈ chC n tg n from List.mem_map.2 ⟨k, List.mem_range.2 hk, rfl⟩)]
  rfl
theorem ch_AE : (chD n tg ⟨#[78]⟩).AE ⟨#[69]⟩ = ⟨[], some [(⟨#[97]⟩, .ref ⟨#[84, 48]⟩, false)], none⟩ := by
  simp [chD, spOf, chX, kget, IEnt.ast, chE]

/-! ### what is declared -/
abbrev ChEnv (n : Nat) (tg : Option Nat) (V : Env) : Prop := EnvIs (bareSp (chL n tg)) (chD n tg) (· ∈ namedSp (chL n tg)) V
theorem ch_com (hn : n ≤ 50) {x : Str} {t : ATy} : ComOf (bareSp (chL n tg)) (chD n tg) (· ∈ namedSp (chL n tg)) x t ↔ ∃ k, k < n ∧ x = qual ⟨#[78]⟩ (tN k) ∧ t = chT n tg k := by
  rw [ch_bare, ch_named]
  constructor
  · rintro (⟨h, _⟩ | ⟨s, hs, m, hm, h1, h2⟩)
    · simp [spOf] at h
    · simp only [List.mem_singleton] at hs
      subst hs
      rw [ch_cn] at hm
      obtain ⟨k, hk, rfl⟩ := List.mem_map.1 hm
      have hk' := List.mem_range.1 hk
      rw [ch_CT hn hk'] at h2
      exact ⟨k, hk', h1, h2⟩
  · rintro ⟨k, hk, h1, h2⟩
    exact .inr ⟨⟨#[78]⟩, by simp, tN k, by rw [ch_cn]; exact List.mem_map.2 ⟨k, List.mem_range.2 hk, rfl⟩, h1, by rw [ch_CT hn hk]; exact h2⟩
theorem ch_get (hn : n ≤ 50) {V : Env} (h : ChEnv n tg V) {k : Nat} (hk : k < n) : kget V.C (qual ⟨#[78]⟩ (tN k)) = some (chT n tg k) := by
  have h1 := h.has _ _ ((ch_com hn).2 ⟨k, hk, rfl, rfl⟩)
  cases hx : kget V.C (qual ⟨#[78]⟩ (tN k)) with
  | none => rw [hx] at h1; cases h1
  | some t =>
    obtain ⟨k', hk', e1, e2⟩ := (ch_com hn).1 (h.back _ _ hx)
    rw [tN_inj k (by omega) k' (by omega) (qualN_inj e1), e2]
theorem ch_not (hn : n ≤ 50) {V : Env} (h : ChEnv n tg V) {x : Str} (hx : ∀ k, k < n → qual ⟨#[78]⟩ (tN k) ≠ x) : kget V.C x = none := by
  cases hc : kget V.C x with
  | none => rfl
  | some t =>
    obtain ⟨k, hk, e, _⟩ := (ch_com hn).1 (h.back _ _ hc)
    exact (hx k hk e.symm).elim
theorem ch_known {V : Env} (h : ChEnv n tg V) (x : Str) : V.known x ↔ x = qual ⟨#[78]⟩ ⟨#[69]⟩ := by
  unfold Env.known
  rw [h.ents, h.enums, ch_bare, ch_named]
  constructor
  · rintro ((h | ⟨s, hs, m, hm, e⟩) | (h | ⟨s, hs, m, hm, e⟩))
    · simp [spOf] at h
    · simp only [List.mem_singleton] at hs
      subst hs
      rw [ch_en] at hm
      simp only [List.mem_singleton] at hm
      subst hm
      exact e
    · simp [spOf] at h
    · simp [chD, spOf] at hm
  · rintro rfl
    exact .inl (.inr ⟨⟨#[78]⟩, by simp, ⟨#[69]⟩, by rw [ch_en]; simp, rfl⟩)

/-! ### circles -/
def ChStep (n : Nat) (tg : Option Nat) (k j : Nat) : Prop := if k + 1 = n then tg = some j else j = k + 1
theorem ref_of {n : Nat} {tg : Option Nat} {k : Nat} {r : Str} (h : RefIn r (chT n tg k)) : r = if k + 1 = n then lastN tg else tN (k + 1) := by
  unfold chT at h
  cases h with
  | set h => cases h; rfl
theorem path_in (hn : n ≤ 50) {V : Env} (h : ChEnv n tg V) {j : Nat} (hj : j < n) : pathOf V ⟨#[78]⟩ (tN j) = qual ⟨#[78]⟩ (tN j) := by
  unfold pathOf
  rw [if_neg (by rw [tN_hasSub (by omega)]; decide), if_pos ⟨by decide, by rw [ch_get hn h hj]; rfl⟩]
theorem ch_edge (hn : n ≤ 50) (htg : ∀ b, tg = some b → b < n) {V : Env} (h : ChEnv n tg V) {x p : Str} : Edge V x p ↔ ∃ k j, k < n ∧ j < n ∧ x = qual ⟨#[78]⟩ (tN k) ∧ p = qual ⟨#[78]⟩ (tN j) ∧ ChStep n tg k j := by
  constructor
  · rintro ⟨t, r, ht, hr, hp, hpC⟩
    obtain ⟨k, hk, rfl, rfl⟩ := (ch_com hn).1 (h.back _ _ ht)
    have hr' := ref_of hr
    rw [show nsOf (qual ⟨#[78]⟩ (tN k)) = ⟨#[78]⟩ by rw [qualN]; exact tN_ns k (by omega)] at hp
    by_cases hl : k + 1 = n
    · rw [if_pos hl] at hr'
      cases htg' : tg with
      | none =>
        exfalso
        rw [htg'] at hr'
        have hr'' : r = ⟨#[76, 111, 110, 103]⟩ := hr'
        subst hr''
        have h1 : kget V.C (qual ⟨#[78]⟩ ⟨#[76, 111, 110, 103]⟩) = none := ch_not hn h fun k hk => qlong_ne k (by omega)
        have h2 : pathOf V ⟨#[78]⟩ ⟨#[76, 111, 110, 103]⟩ = ⟨#[76, 111, 110, 103]⟩ := by
          unfold pathOf
          rw [if_neg (by rw [long_hasSub]; decide), if_neg (fun h => by rw [h1] at h; exact absurd h.2 (by decide))]
        rw [h2] at hp
        subst hp
        obtain ⟨q, hq, e⟩ := List.mem_map.1 hpC
        have h3 : kget V.C ⟨#[76, 111, 110, 103]⟩ = none := ch_not hn h fun k hk => long_ne k (by omega)
        have h4 : ∀ l : List (Str × ATy), q ∈ l → kget l q.1 ≠ none := fun l hl hno => by
          unfold kget at hno
          simp only [Option.map_eq_none_iff, List.find?_eq_none, decide_eq_true_eq] at hno
          exact hno q hl rfl
        exact h4 V.C hq (by rw [e]; exact h3)
      | some b =>
        rw [htg'] at hr'
        have hr'' : r = tN b := hr'
        subst hr''
        rw [path_in hn h (htg b htg')] at hp
        exact ⟨k, b, hk, htg b htg', rfl, hp, by unfold ChStep; rw [if_pos hl]⟩
    · rw [if_neg hl] at hr'
      subst hr'
      rw [path_in hn h (by omega)] at hp
      exact ⟨k, k + 1, hk, by omega, rfl, hp, by unfold ChStep; rw [if_neg hl]⟩
  · rintro ⟨k, j, hk, hj, rfl, rfl, hs⟩
    refine ⟨chT n tg k, tN j, ch_get hn h hk, ?_, ?_, ?_⟩
    · unfold chT
      refine .set ?_
      unfold ChStep at hs
      by_cases hl : k + 1 = n
      · rw [if_pos hl] at hs ⊢
        rw [hs]; exact .ref
      · rw [if_neg hl] at hs ⊢
        rw [hs]; exact .ref
    · rw [show nsOf (qual ⟨#[78]⟩ (tN k)) = ⟨#[78]⟩ by rw [qualN]; exact tN_ns k (by omega), path_in hn h hj]
    · exact List.mem_map.2 ⟨_, kget_some (ch_get hn h hj), rfl⟩
theorem ch_acyc (hn : n ≤ 50) {V : Env} (h : ChEnv n none V) : Acyc V := by
  refine ⟨fun x => open Classical in if hx : ∃ k, k < n ∧ x = qual ⟨#[78]⟩ (tN k) then hx.choose else 0, fun x p he => ?_⟩
  have hr : ∀ k, k < n → ∀ (hx : ∃ k', k' < n ∧ qual ⟨#[78]⟩ (tN k) = qual ⟨#[78]⟩ (tN k')), hx.choose = k := fun k hk hx => by
    obtain ⟨h1, h2⟩ := hx.choose_spec
    exact (tN_inj k (by omega) _ (by omega) (qualN_inj h2)).symm
  obtain ⟨k, j, hk, hj, rfl, rfl, hs⟩ := (ch_edge hn (fun _ h => by cases h) h).1 he
  have hkx : ∃ k', k' < n ∧ qual ⟨#[78]⟩ (tN k) = qual ⟨#[78]⟩ (tN k') := ⟨k, hk, rfl⟩
  have hjx : ∃ k', k' < n ∧ qual ⟨#[78]⟩ (tN j) = qual ⟨#[78]⟩ (tN k') := ⟨j, hj, rfl⟩
  show (if hx : _ then _ else 0) < (if hx : _ then _ else 0)
  rw [dif_pos hkx, dif_pos hjx, hr k hk hkx, hr j hj hjx]
  unfold ChStep at hs
  by_cases hl : k + 1 = n
  · rw [if_pos hl] at hs; cases hs
  · rw [if_neg hl] at hs; omega
theorem ch_cyc (hn : n ≤ 50) {b : Nat} (hb : b < n) {V : Env} (h : ChEnv n (some b) V) : ¬ Acyc V := by
  rintro ⟨rank, hr⟩
  have hstep : ∀ k j, k < n → j < n → ChStep n (some b) k j → rank (qual ⟨#[78]⟩ (tN k)) < rank (qual ⟨#[78]⟩ (tN j)) := fun k j hk hj hs =>
    hr _ _ ((ch_edge hn (fun _ h => by cases h; exact hb) h).2 ⟨k, j, hk, hj, rfl, rfl, hs⟩)
  have hle : ∀ d, b + d < n → rank (qual ⟨#[78]⟩ (tN b)) ≤ rank (qual ⟨#[78]⟩ (tN (b + d))) := by
    intro d
    induction d with
    | zero => intro _; exact Nat.le_refl _
    | succ d ih =>
      intro hd
      have h1 := ih (by omega)
      have h2 := hstep (b + d) (b + (d + 1)) (by omega) hd (by unfold ChStep; rw [if_neg (by omega)]; omega)
      omega
  have h1 := hle (n - 1 - b) (by omega)
  have h2 := hstep (b + (n - 1 - b)) b (by omega) hb (by unfold ChStep; rw [if_pos (by omega)])
  omega

/-! ### what is resolved -/
def setA : Nat → ATy → ATy
  | 0, t => t
  | d + 1, t => .set (setA d t)
def setR : Nat → RTy → RTy
  | 0, t => t
  | d + 1, t => .set (setR d t)
theorem setR_rok (d : Nat) : ROk (setR d .long) := by
  induction d with
  | zero => exact .long
  | succ d ih => exact .set ih
theorem setR_meant : ∀ (d : Nat) {a : ATy}, Meant (setR d .long) a → a = setA d .long
  | 0, a, h => by cases h; rfl
  | d + 1, a, h => by
    cases h with
    | set h => rw [setR_meant d h]; rfl
theorem ch_long (hn : n ≤ 50) {V : Env} (h : ChEnv n tg V) (m : Nat) : resTy V (m + 1) ⟨#[78]⟩ (.ref ⟨#[76, 111, 110, 103]⟩) = some (some .long) := by
  rw [resTy, if_neg (by rw [long_hasSub]; decide)]
  unfold resBare
  have hne : ¬ ((⟨#[78]⟩ : Str) = ByteArray.empty) := by decide
  rw [if_neg hne, ch_not hn h fun k hk => qlong_ne k (by omega)]
  simp only
  have h1 : ¬ V.known (qual ⟨#[78]⟩ ⟨#[76, 111, 110, 103]⟩) := fun hk => absurd (qualN_inj ((ch_known h _).1 hk)) (by decide)
  rw [if_neg (fun q => h1 q.2), ch_not hn h fun k hk => long_ne k (by omega)]
  simp only
  have h2 : ¬ V.known ⟨#[76, 111, 110, 103]⟩ := fun hk => absurd ((ch_known h _).1 hk) (by decide)
  rw [if_neg h2]
  rfl
theorem ch_res (hn : n ≤ 50) {V : Env} (h : ChEnv n none V) : ∀ d k, k + d + 1 = n → ∀ m, resTy V (2 * d + 3 + m) ⟨#[78]⟩ (.ref (tN k)) = some (some (setR (d + 1) .long)) := by
  have hstep : ∀ k, k < n → ∀ f, resTy V (f + 2) ⟨#[78]⟩ (.ref (tN k)) = (resTy V f ⟨#[78]⟩ (.ref (if k + 1 = n then lastN none else tN (k + 1)))).map (Option.map RTy.set) := by
    intro k hk f
    rw [resTy, if_neg (by rw [tN_hasSub (by omega)]; decide)]
    unfold resBare
    have hne : ¬ ((⟨#[78]⟩ : Str) = ByteArray.empty) := by decide
    rw [if_neg hne, ch_get hn h hk]
    simp only
    unfold chT
    rw [resTy]
  intro d
  induction d with
  | zero =>
    intro k hk m
    rw [show 2 * 0 + 3 + m = (m + 1) + 2 by omega, hstep k (by omega), if_pos (by omega)]
    show (resTy V (m + 1) ⟨#[78]⟩ (.ref ⟨#[76, 111, 110, 103]⟩)).map _ = _
    rw [ch_long hn h]; rfl
  | succ d ih =>
    intro k hk m
    rw [show 2 * (d + 1) + 3 + m = (2 * d + 3 + m) + 2 by omega, hstep k (by omega), if_neg (by omega), ih (k + 1) (by omega) m]; rfl
def chR (n : Nat) : REnt := ⟨qual ⟨#[78]⟩ ⟨#[69]⟩, [], some (.record [(⟨#[97]⟩, setR n .long, false)]), none⟩
theorem ch_resE (hn : n ≤ 50) (h0 : 0 < n) {V : Env} (h : ChEnv n none V) : resEnt V 110 ⟨#[78]⟩ ⟨#[69]⟩ ((chD n none ⟨#[78]⟩).AE ⟨#[69]⟩) = some (some (chR n)) := by
  rw [ch_AE]
  obtain ⟨d, hd⟩ : ∃ d, n = d + 1 := ⟨n - 1, by omega⟩
  have h1 := ch_res hn h d 0 (by omega) (110 - (2 * d + 3))
  rw [show 2 * d + 3 + (110 - (2 * d + 3)) = 110 by omega, ← hd] at h1
  have h2 : tN 0 = ⟨#[84, 48]⟩ := by decide
  rw [h2] at h1
  rw [resEnt_one h1]; rfl
theorem ch_ents (hn : n ≤ 50) (h0 : 0 < n) {V : Env} (hV : ChEnv n none V) {x : Str} {v : REnt} (h : EntsOf V 110 (bareSp (chL n none)) (chD n none) (· ∈ namedSp (chL n none)) x v) : x = qual ⟨#[78]⟩ ⟨#[69]⟩ ∧ v = chR n := by
  rw [ch_bare, ch_named] at h
  rcases h with ⟨m, hm, _⟩ | ⟨s, hs, m, hm, h1, h2⟩
  · simp [spOf] at hm
  · simp only [List.mem_singleton] at hs
    subst hs
    rw [ch_en] at hm
    simp only [List.mem_singleton] at hm
    subst hm
    refine ⟨h1, ?_⟩
    rw [h2]; unfold REntOf; rw [ch_resE hn h0 hV]; rfl
theorem ch_wrong : ¬ Wrong (bareSp (chL n tg)) (chD n tg) (namedSp (chL n tg)) := by
  rw [ch_bare, ch_named]
  unfold Wrong
  rintro (⟨m, _, h⟩ | ⟨s, hs, m, h, h'⟩ | ⟨s, hs, h⟩)
  · simp [spOf] at h
  · simp [chD, spOf] at h'
  · rcases h with ⟨t, h1, h2⟩ | ⟨t, h1, _⟩
    · simp [spOf] at h2
    · simp [SpD.names] at h1
theorem ch_comOk (hn : n ≤ 50) : ComOk (bareSp (chL n tg)) (chD n tg) (namedSp (chL n tg)) := by
  refine ⟨(List.range n).map fun k => qual ⟨#[78]⟩ (tN k), by simp; omega, fun x t h => ?_⟩
  obtain ⟨k, hk, rfl, rfl⟩ := (ch_com hn).1 h
  refine ⟨List.mem_map.2 ⟨k, List.mem_range.2 hk, rfl⟩, ?_, .set (.ref _)⟩
  have := tN_size k (by omega)
  rw [qualN_size]; omega
theorem ch_okN (hn : n ≤ 50) (h0 : 0 < n) : ResOk (chL n none) (chD n none) 110 := by
  refine ⟨ch_comOk hn, fun V hV _ => ⟨fun m hm => ?_, fun s hs m hm => ?_⟩, fun V hV _ m v h => ?_, ⟨[qual ⟨#[78]⟩ ⟨#[69]⟩], by simp, fun m hm => ?_, fun V hV _ m v h => ?_⟩, ⟨[], by simp, fun m hm => by simp at hm, fun m v h => ?_⟩⟩
  · rw [ch_bare] at hm; simp [spOf] at hm
  · rw [ch_named] at hs
    simp only [List.mem_singleton] at hs
    subst hs
    rw [ch_en] at hm
    simp only [List.mem_singleton] at hm
    subst hm
    exact ⟨_, ch_resE hn h0 hV⟩
  · obtain ⟨_, rfl⟩ := ch_ents hn h0 hV h
    refine ⟨by simp [chR], fun t h => ?_, fun t h => by simp [chR] at h⟩
    simp only [chR, Option.some.injEq] at h
    subst h
    refine .record (by simp) (fun k t o hk => ?_) (fun k t o hk => ?_)
    · simp only [List.mem_singleton, Prod.mk.injEq] at hk
      rw [hk.1]; decide
    · simp only [List.mem_singleton, Prod.mk.injEq] at hk
      rw [hk.2.1]; exact setR_rok _
  · simp only [List.mem_singleton] at hm
    rw [hm]; decide
  · rw [(ch_ents hn h0 hV h).1]; simp
  · rw [ch_bare, ch_named] at h
    rcases h with ⟨m', hm, _⟩ | ⟨s, hs, m', hm, _⟩
    · simp [spOf] at hm
    · simp [chD, spOf] at hm
theorem ch_okS (hn : n ≤ 50) {b : Nat} (hb : b < n) : ResOk (chL n (some b)) (chD n (some b)) 110 := by
  refine ⟨ch_comOk hn, fun V hV hac => (ch_cyc hn hb hV hac).elim, fun V hV hac => (ch_cyc hn hb hV hac).elim, ⟨[], by simp, fun m hm => by simp at hm, fun V hV hac => (ch_cyc hn hb hV hac).elim⟩, ⟨[], by simp, fun m hm => by simp at hm, fun m v h => ?_⟩⟩
  rw [ch_bare, ch_named] at h
  rcases h with ⟨m', hm, _⟩ | ⟨s, hs, m', hm, _⟩
  · simp [spOf] at hm
  · simp [chD, spOf] at hm
theorem meant_oneT {k : Str} {t : RTy} {a : List (Str × ATy × Bool)} (h : Meant (.record [(k, t, false)]) (.record a)) : ∃ v, a = [(k, v, false)] ∧ Meant t v := by
  generalize hr : RTy.record [(k, t, false)] = r at h
  generalize ha : ATy.record a = q at h
  cases h <;> cases ha
  rename_i l f ht hs hp hm
  cases hr
  have h1 := hp.length_eq
  simp only [List.length_map, List.length_cons, List.length_nil] at h1
  have h2 := hm k t false (by simp)
  have h3 := ht k t false (by simp)
  match a, h1 with
  | [p], _ =>
    simp only [List.mem_singleton] at h2
    exact ⟨f k, by rw [h2], h3⟩
theorem ch_postS (hn : n ≤ 50) {b : Nat} (hb : b < n) {w w' : World} {e : Ending} (h : ImplPost (chL n (some b)) (chD n (some b)) 110 w e w') :
    e = .returned (.tuple #[.agg #[.slice none 0 0, .slice none 0 0, .slice none 0 0], .bool false, .bool false]) ∧ Keep NoB w w' := by
  rcases h with ⟨he, _, hk⟩ | ⟨_, V, hV, hac, _⟩
  · exact ⟨he, hk⟩
  · exact (ch_cyc hn hb hV hac).elim
theorem ch_postN (hn : n ≤ 50) (h0 : 0 < n) {w w' : World} {e : Ending} (h : ImplPost (chL n none) (chD n none) 110 w e w') :
    ∃ (e0 : IEnt) (sE sN sA : Sl), e = .returned (.tuple #[.agg #[slV sE, slV sN, slV sA], .bool true, .bool false]) ∧ RowAt EntC 8 w' (· < w.heap.size) [(qual ⟨#[78]⟩ ⟨#[69]⟩, e0)] sE ∧ e0.attrs = [(⟨#[97]⟩, setA n .long, false)] ∧ Keep NoB w w' := by
  rcases h with ⟨_, hbad, _⟩ | ⟨_, V, hV, _, _, hr, lE, lN, sE, sN, sA, he, hrow, _, _, ⟨_, hnod⟩, _, hfrom, hto, _, _, hk⟩
  · exfalso
    rcases hbad with hbad | ⟨V, hV, hbad⟩
    · exact ch_wrong hbad
    · replace hbad := (hbad.resolve_left (fun q => q (ch_acyc hn hV))).2
      rw [ch_bare, ch_named] at hbad
      rcases hbad with ⟨m, hm, _⟩ | ⟨t, ht, m, hm, h⟩
      · simp [spOf] at hm
      · simp only [List.mem_singleton] at ht
        subst ht
        rw [ch_en] at hm
        simp only [List.mem_singleton] at hm
        subst hm
        rw [ch_resE hn h0 hV] at h
        cases h
  · have h1 : qual ⟨#[78]⟩ ⟨#[69]⟩ ∈ lE.map (·.1) := hto _ (chR n) (by
      rw [ch_named]
      exact .inr ⟨⟨#[78]⟩, by simp, ⟨#[69]⟩, by rw [ch_en]; simp, rfl, by unfold REntOf; rw [ch_resE hn h0 hV]; rfl⟩)
    have h2 : ∀ r ∈ lE, r.1 = qual ⟨#[78]⟩ ⟨#[69]⟩ ∧ r.2.attrs = [(⟨#[97]⟩, setA n .long, false)] := fun r hr' => by
      obtain ⟨v, hv, hm⟩ := hfrom r hr'
      obtain ⟨e1, rfl⟩ := ch_ents hn h0 hV hv
      obtain ⟨_, ⟨l, hl, hm'⟩, _⟩ := hm
      simp only [chR, ShapeL, RTy.record.injEq] at hl
      subst hl
      obtain ⟨v, e2, e3⟩ := meant_oneT hm'
      exact ⟨e1, by rw [e2, setR_meant _ e3]⟩
    obtain ⟨e0, hl⟩ : ∃ e0, lE = [(qual ⟨#[78]⟩ ⟨#[69]⟩, e0)] := by
      match lE, hnod, h1, h2 with
      | [(p, e0)], _, _, h2 => exact ⟨e0, by have q : p = _ := (h2 (p, e0) (by simp)).1; rw [q]⟩
      | r :: t :: l, hnod, _, h2 =>
        have q1 := (h2 r (by simp)).1
        have q2 := (h2 t (by simp)).1
        simp [q1, q2] at hnod
    subst hl
    exact ⟨e0, sE, sN, sA, he, hrow, (h2 (qual ⟨#[78]⟩ ⟨#[69]⟩, e0) (by simp)).2, hk⟩
end
end Go.Proofs.YthhjehajdcgkhaaGreatDoor
