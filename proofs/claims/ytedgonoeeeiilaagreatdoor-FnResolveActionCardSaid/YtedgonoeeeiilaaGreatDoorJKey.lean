/- Key, Rka: joined. -/
import Derived.Test.YtedgonoeeeiilaaGreatDoorPl
import Derived.Test.YtedgonoeeeiilaaGreatDoorDig
/- The keys that the laws write of resolved schemas: the walks of framed, namesKey, flag. -/
namespace Go.Proofs.YtedgonoeeeiilaaGreatDoor
open Go.RowKit

theorem dig_len (n w : Nat) : (dig n w).length ≤ n + w := by
  induction n, w using dig.induct with
  | case1 n w h => rw [dig, dif_pos h]; simp
  | case2 n w h ih =>
    rw [dig_step h, List.length_append, List.length_singleton]
    rcases Nat.eq_zero_or_pos n with h0 | h0
    · have : w ≠ 0 := fun e => h ⟨h0, e⟩
      subst h0
      simp at ih ⊢
      omega
    · have : n / 10 < n := Nat.div_lt_self h0 (by omega)
      omega
theorem dig_short (k : Nat) : ∀ n w, n < 10 ^ k → (dig n w).length ≤ max k w := by
  induction k with
  | zero =>
    intro n w hn
    have h0 : n = 0 := by simpa using hn
    subst h0
    have := dig_len 0 w
    omega
  | succ k ih =>
    intro n w hn
    by_cases h : n = 0 ∧ w = 0
    · rw [dig, dif_pos h]; simp
    · rw [dig_step h, List.length_append, List.length_singleton]
      have h1 : n / 10 < 10 ^ k := by rw [Nat.pow_succ] at hn; omega
      have := ih (n / 10) (w - 1) h1
      omega
theorem digS_short {n : Nat} (h : n < 10000000) : (digS n 1).size ≤ 7 := by
  have h1 : (digS n 1).size = (dig n 1).length := rfl
  have := dig_short 7 n 1 (by omega)
  omega

/-- a text behind its length -/
def frm (s : Str) : Str := digS s.size 1 ++ ⟨#[58]⟩ ++ s
theorem frm_size {s : Str} (h : s.size < 10000000) : (frm s).size ≤ s.size + 8 := by
  have h1 := digS_short h
  unfold frm
  rw [ByteArray.size_append, ByteArray.size_append]
  have h2 : (⟨#[58]⟩ : Str).size = 1 := rfl
  omega
theorem frm_ge (s : Str) : s.size ≤ (frm s).size := by
  unfold frm
  rw [ByteArray.size_append]
  omega
set_option maxRecDepth 100000 in
theorem framed_c (s : Str) (hs : s.size ≤ 1000000) (w : World) : Calls Tryz.prog 25 #[.string s] w fun e w' => e = .returned (.string (frm s)) ∧ Keep NoB w w' := by
  have h1 := digS_short (n := s.size) (by omega)
  go_enter Tryz.func25, Tryz.ntmps25
  go_wp2_with fail
  refine (digits_c s.size 1 hs (by omega) _).mono ?_
  rintro e w1 ⟨rfl, k1⟩
  have K1 := Lib.hid k1
  clear k1
  go_wp2_with fail
  go_ret
  exact ⟨rfl, K1.out⟩

/-- texts of a list's members, one behind the other -/
def catF {α : Type} (f : α → Str) (l : List α) : Str := l.foldl (fun acc x => acc ++ f x) ⟨#[]⟩
theorem catF_snoc {α : Type} (f : α → Str) (l : List α) (x : α) : catF f (l ++ [x]) = catF f l ++ f x := by
  unfold catF; rw [List.foldl_append]; rfl
theorem foldl_size {α : Type} (f : α → Str) (l : List α) : ∀ a : Str, a.size ≤ (l.foldl (fun acc x => acc ++ f x) a).size := by
  induction l with
  | nil => intro a; exact Nat.le_refl _
  | cons x l ih =>
    intro a
    have := ih (a ++ f x)
    rw [ByteArray.size_append] at this
    simp only [List.foldl_cons]
    omega
theorem catF_take {α : Type} (f : α → Str) (l : List α) (j : Nat) : (catF f (l.take j)).size ≤ (catF f l).size := by
  have h : l = l.take j ++ l.drop j := (List.take_append_drop j l).symm
  conv => rhs; rw [h]
  unfold catF
  rw [List.foldl_append]
  exact foldl_size _ _ _
theorem catF_mem {α : Type} (f : α → Str) (l : List α) (j : Nat) (x : α) (h : l[j]? = some x) : (f x).size ≤ (catF f l).size := by
  obtain ⟨hj, rfl⟩ := List.getElem?_eq_some_iff.1 h
  have h1 := catF_take f l (j + 1)
  rw [List.take_succ_eq_append_getElem hj, catF_snoc, ByteArray.size_append] at h1
  omega
abbrev catK (l : List Str) : Str := catF frm l
/-- a list of names -/
def namesK (l : List Str) : Str := frm (catK l)

set_option maxRecDepth 100000 in
set_option maxHeartbeats 4000000 in
theorem namesKey_c (w0 : World) (M : Nat → Prop) (l : List Str) (o : Option Addr) (n c : Nat) (h : StrsAt w0 M l (.slice o n c)) (hn : l.length ≤ 1000000) (hB : (catK l).size ≤ 900000) (w : World) (k0 : Keep NoB w0 w) :
    Calls Tryz.prog 27 #[.slice o n c] w fun e w' => e = .returned (.string (namesK l)) ∧ Keep NoB w w' := by
  have hz : ∀ x ∈ l, x.size ≤ 900000 := fun x hx => by
    obtain ⟨j, hj⟩ := List.getElem?_of_mem hx
    have h1 := catF_mem frm l j x hj
    have h2 := frm_ge x
    have h3 : (catF frm l).size ≤ 900000 := hB
    omega
  obtain ⟨ov, cc, he, hc⟩ := h
  simp only [Value.slice.injEq] at he
  obtain ⟨rfl, rfl, rfl⟩ := he
  obtain ⟨m, hm⟩ : ∃ m, m = l.length := ⟨_, rfl⟩
  rw [← hm] at hc hn ⊢
  have HA := Lib.hid (And.intro hm (And.intro hc (And.intro hB (And.intro hz k0))))
  clear hm hc hB hz k0
  go_enter Tryz.func27, Tryz.ntmps27
  go_wp2_with fail
  go_loopg [3, 4] m (fun g s i wr => ∃ j : Nat, j + g = m ∧ i = .int .i64 j ∧ s = .string (catK (l.take j)) ∧ Keep NoB w wr)
  case atStart => exact ⟨0, by omega, rfl, rfl, Keep.refl _ _⟩
  case round =>
    obtain ⟨j, hj, rfl, rfl, hk⟩ := hrel
    have HK := Lib.hid hk
    clear hk
    have hcs : (catK (l.take j)).size ≤ 900000 := Nat.le_trans (catF_take frm l j) HA.out.2.2.1
    by_cases hlt : j < m
    · obtain ⟨hm, hc, hB, hz, k0⟩ := HA.out
      rcases hc with h0 | ⟨bv, offv, rfl, hMv, hcell⟩
      · omega
      have hcv := (hcell j hlt).2.keep (k0.then HK.out) (NoB.not _) 0 _ rfl
      simp only [Nat.mul_one, Nat.add_zero] at hcv
      obtain ⟨vj, hvj⟩ : ∃ vj, vj = l.getD j ⟨#[]⟩ := ⟨_, rfl⟩
      rw [← hvj] at hcv
      have hjl : j < l.length := by omega
      have hv : vj = l[j] := by rw [hvj, List.getD_eq_getElem?_getD, List.getElem?_eq_getElem hjl]; rfl
      have hvz : vj.size ≤ 900000 := by rw [hv]; exact hz _ (List.getElem_mem hjl)
      have hfz := frm_size (s := vj) (by omega)
      have hfz' : (frm vj).size ≤ 1000000 := by omega
      have HV := Lib.hid (show ∃ h : j < l.length, vj = l[j] from ⟨hjl, hv⟩)
      obtain ⟨S, hS⟩ : ∃ S, S = catK (l.take j) := ⟨_, rfl⟩
      rw [← hS] at hcs ⊢
      have HS := Lib.hid hS
      clear hm hB hz k0 hMv hcell hvj hv hjl hfz hS
      go_wp2_with fail
      refine (framed_c vj (by omega) _).mono ?_
      rintro e w3 ⟨rfl, k3⟩
      have K3 := Lib.hid k3
      clear k3 hcv
      go_wp2_with fail
      go_roundg (gk - 1)
      case measure => omega
      case rel =>
        obtain ⟨hjl, hv⟩ := HV.out
        refine ⟨j + 1, by omega, by go_num, ?_, HK.out.then K3.out⟩
        rw [List.take_succ_eq_append_getElem hjl, show catK (l.take j ++ [l[j]]) = _ from catF_snoc _ _ _, ← hv, HS.out]
    · have hjm : j = m := by omega
      subst hjm
      have hl : catK (l.take j) = catK l := by rw [HA.out.1, List.take_length]
      rw [hl] at hcs ⊢
      clear hl
      go_wp2_with fail
      refine (framed_c (catK l) (by omega) _).mono ?_
      rintro e w3 ⟨rfl, k3⟩
      have K3 := Lib.hid k3
      clear k3
      go_wp2_with fail
      go_ret
      exact ⟨rfl, HK.out.then K3.out⟩

def flagS (b : Bool) : Str := if b then ⟨#[43]⟩ else ⟨#[45]⟩
theorem flag_c (b : Bool) (w : World) : Calls Tryz.prog 29 #[.bool b] w fun e w' => e = .returned (.string (flagS b)) ∧ w' = w := by
  cases b <;> (go_enter Tryz.func29, Tryz.ntmps29; go_wp2; go_ret; exact ⟨rfl, rfl⟩)
end Go.Proofs.YtedgonoeeeiilaaGreatDoor
/- The walk of resolvedKey: what the keys of entity types and of contexts are comes as premises; the walk of uidsKey. -/
namespace Go.Proofs.YtedgonoeeeiilaaGreatDoor
open Go.RowKit

def enumP (p : Str × List Str) : Str := frm p.1 ++ namesK p.2
def entP (kE : IEnt → Str) (p : Str × IEnt) : Str := frm p.1 ++ frm (kE p.2)
def uidP (u : Uid) : Str := frm u.1 ++ frm u.2
def uidsK (l : List Uid) : Str := frm (catF uidP l)
def appK (kC : List (Str × ATy × Bool) → Str) : Option (List Str × List Str × List (Str × ATy × Bool)) → Str
  | none => ⟨#[]⟩
  | some x => namesK x.1 ++ namesK x.2.1 ++ frm (kC x.2.2)
def actP (kC : List (Str × ATy × Bool) → Str) (p : Uid × OAct) : Str := (((frm p.1.1 ++ frm p.1.2) ++ uidsK p.2.parents) ++ flagS p.2.app.isSome) ++ appK kC p.2.app
def rK (kE : IEnt → Str) (lE : List (Str × IEnt)) (lN : List (Str × List Str)) : Str := frm (frm (catF (entP kE) lE) ++ catF enumP lN)
def rKA (kE : IEnt → Str) (kC : List (Str × ATy × Bool) → Str) (lE : List (Str × IEnt)) (lN : List (Str × List Str)) (lA : List (Uid × OAct)) : Str := rK kE lE lN ++ catF (actP kC) lA
/-- what the walk asks of the key of an entity type -/
def EntKeys (w0 : World) (M : Nat → Prop) (kE : IEnt → Str) (lE : List (Str × IEnt)) : Prop :=
  ∀ p ∈ lE, ∀ ps ats k s el al, OEntIs w0 M p.2 ps ats k s el al → ∀ w, Keep NoB w0 w →
    Calls Tryz.prog 26 #[.agg #[.string p.1, slV ps, slV ats, .bool p.2.tags.isSome, .int .i64 k, .string s, slV el, slV al]] w fun e w' => e = .returned (.string (kE p.2)) ∧ Keep NoB w w'
/-- and of the key of a context -/
def CtxKeys (w0 : World) (M : Nat → Prop) (kC : List (Str × ATy × Bool) → Str) (lA : List (Uid × OAct)) : Prop :=
  ∀ p ∈ lA, ∀ x, p.2.app = some x → ∀ cs : Sl, (∀ s e', OTyIs w0 M (.record x.2.2) (tyV 6 s e' cs)) → ∀ w, Keep NoB w0 w →
    Calls Tryz.prog 30 #[.slice cs.1 cs.2.1 cs.2.2] w fun e w' => e = .returned (.string (kC x.2.2)) ∧ Keep NoB w w'
/-- the lengths in an action -/
def ActFew (p : Uid × OAct) : Prop := p.2.parents.length ≤ 1000000 ∧ ∀ x, p.2.app = some x → x.1.length ≤ 1000000 ∧ x.2.1.length ≤ 1000000

set_option maxRecDepth 100000 in
set_option maxHeartbeats 4000000 in
theorem uidsKey_c (w0 : World) (M : Nat → Prop) (l : List Uid) (o : Option Addr) (n c : Nat) (h : UidsAt w0 M l (.slice o n c)) (hn : l.length ≤ 1000000) (hB : (catF uidP l).size ≤ 900000) (w : World) (k0 : Keep NoB w0 w) :
    Calls Tryz.prog 28 #[.slice o n c] w fun e w' => e = .returned (.string (uidsK l)) ∧ Keep NoB w w' := by
  have hz : ∀ x ∈ l, (frm x.1).size + (frm x.2).size ≤ 900000 := fun x hx => by
    obtain ⟨j, hj⟩ := List.getElem?_of_mem hx
    have h1 := catF_mem uidP l j x hj
    unfold uidP at h1
    rw [ByteArray.size_append] at h1
    have h3 : (catF uidP l).size ≤ 900000 := hB
    unfold uidP at h3
    omega
  obtain ⟨ov, cc, he, hc⟩ := h
  simp only [Value.slice.injEq] at he
  obtain ⟨rfl, rfl, rfl⟩ := he
  obtain ⟨m, hm⟩ : ∃ m, m = l.length := ⟨_, rfl⟩
  rw [← hm] at hc hn ⊢
  have HA := Bx.mk (And.intro hm (And.intro hc (And.intro hB (And.intro hz k0))))
  clear hm hc hB hz k0
  go_enter Tryz.func28, Tryz.ntmps28
  go_wp2_with fail
  go_loopg [3, 4] m (fun g s i wr => ∃ j : Nat, j + g = m ∧ i = .int .i64 j ∧ s = .string (catF uidP (l.take j)) ∧ Keep NoB w wr)
  case atStart => exact ⟨0, by omega, rfl, rfl, Keep.refl _ _⟩
  case round =>
    obtain ⟨j, hj, rfl, rfl, hk⟩ := hrel
    have HK := Bx.mk hk
    clear hk
    have hcs : (catF uidP (l.take j)).size ≤ 900000 := Nat.le_trans (catF_take uidP l j) HA.out.2.2.1
    by_cases hlt : j < m
    · obtain ⟨hm, hc, hB, hz, k0⟩ := HA.out
      rcases hc with h0 | ⟨bv, offv, rfl, hMv, hcell⟩
      · omega
      have hcv := fun x (kx : Keep NoB wr x) => (hcell j hlt).2.keep ((k0.then HK.out).then kx) (NoB.not _)
      dsimp only at hcv
      obtain ⟨u, hu⟩ : ∃ u, u = l.getD j (⟨#[]⟩, ⟨#[]⟩) := ⟨_, rfl⟩
      rw [← hu] at hcv
      have hjl : j < l.length := by omega
      have hv : u = l[j] := by rw [hu, List.getD_eq_getElem?_getD, List.getElem?_eq_getElem hjl]; rfl
      have hvz : (frm u.1).size + (frm u.2).size ≤ 900000 := by rw [hv]; exact hz _ (List.getElem_mem hjl)
      have hg1 := frm_ge u.1
      have hg2 := frm_ge u.2
      have HV := Bx.mk (show ∃ h : j < l.length, u = l[j] from ⟨hjl, hv⟩)
      obtain ⟨S, hS⟩ : ∃ S, S = catF uidP (l.take j) := ⟨_, rfl⟩
      rw [← hS] at hcs ⊢
      obtain ⟨u1, u2⟩ := u
      dsimp only at hcv hvz hg1 hg2
      have hb1 : u1.size ≤ 900000 := by omega
      have hb2 : u2.size ≤ 900000 := by omega
      have hs1 : ¬ 9223372036854775807 < (frm u1).size + (frm u2).size := by omega
      have hs2 : ¬ 9223372036854775807 < S.size + ((frm u1).size + (frm u2).size) := by omega
      have HQ := Bx.mk (show ∀ x, Keep NoB wr x → x.cell? ⟨bv, offv + j * 2, none⟩ = some (.string u1) ∧ x.cell? ⟨bv, offv + j * 2 + 1, none⟩ = some (.string u2) from fun x kx => ⟨hcv x kx 0 _ rfl, hcv x kx 1 _ rfl⟩)
      have HS := Bx.mk hS
      clear hm hB hz k0 hMv hcell hu hv hjl hS hcv hvz hg1 hg2
      go_wp2_with fail
      have hK0 : Keep NoB wr wr.drew := Keep.drew _ _
      obtain ⟨q0, q1⟩ := HQ.out _ hK0
      go_region_held3 (fun x => Keep NoB wr x ∧ x.cell? ⟨bv, offv + j * 2, none⟩ = some (.string u1) ∧ x.cell? ⟨bv, offv + j * 2 + 1, none⟩ = some (.string u2))
        (with_reducible (first
          | exact ⟨kwA, HQ.out _ kwA⟩
          | exact ⟨hK0, HQ.out _ hK0⟩
          | assumption))
        ((go_at_call 25
          refine (framed_c _ (by omega) _).mono ?_
          rintro e w4 ⟨rfl, k4⟩
          have kwA : Keep NoB wr w4 := Keep.then (by go_split_ands; assumption) k4))
      have KA := Bx.mk kwA
      clear kwA k4 hK0 q0 q1 hs1 hs2
      go_wp2_with fail
      go_roundg (gk - 1)
      case measure => omega
      case rel =>
        obtain ⟨hjl, hv⟩ := HV.out
        refine ⟨j + 1, by omega, by go_num, ?_, HK.out.then KA.out⟩
        rw [List.take_succ_eq_append_getElem hjl, catF_snoc, ← hv, HS.out]
        rfl
    · have hjm : j = m := by omega
      subst hjm
      have hl : catF uidP (l.take j) = catF uidP l := by rw [HA.out.1, List.take_length]
      rw [hl] at hcs ⊢
      clear hl
      go_wp2_with fail
      refine (framed_c (catF uidP l) (by omega) _).mono ?_
      rintro e w3 ⟨rfl, k3⟩
      have K3 := Bx.mk k3
      clear k3
      go_wp2_with fail
      go_ret
      exact ⟨rfl, HK.out.then K3.out⟩
theorem flag_k (b : Bool) (w : World) : Calls Tryz.prog 29 #[.bool b] w fun e w' => e = .returned (.string (flagS b)) ∧ Keep NoB w w' :=
  (flag_c b w).mono fun _ _ ⟨h1, h2⟩ => ⟨h1, h2 ▸ Keep.refl _ _⟩

set_option maxRecDepth 100000 in
set_option maxHeartbeats 16000000 in
theorem resolvedKeyA_c (w0 : World) (M : Nat → Prop) (kE : IEnt → Str) (kC : List (Str × ATy × Bool) → Str) (lE : List (Str × IEnt)) (lN : List (Str × List Str)) (lA : List (Uid × OAct)) (so so2 so3 : Option Addr) (sl sl2 sl3 sc sc2 sc3 : Nat)
    (hE : RowAt EntC 8 w0 M lE (so, sl, sc)) (hN : RowAt EnumC 2 w0 M lN (so2, sl2, sc2)) (hA : RowAt ActC 7 w0 M lA (so3, sl3, sc3)) (hk : EntKeys w0 M kE lE) (hkC : CtxKeys w0 M kC lA)
    (hlE : lE.length ≤ 1000000) (hlN : lN.length ≤ 1000000) (hvs : ∀ p ∈ lN, p.2.length ≤ 1000000) (bE : (catF (entP kE) lE).size ≤ 400000) (bN : (catF enumP lN).size ≤ 400000) (hlA : lA.length ≤ 1000000) (hfA : ∀ p ∈ lA, ActFew p) (bA : (catF (actP kC) lA).size ≤ 400000) (w : World) (k0 : Keep NoB w0 w) :
    Calls Tryz.prog 10 #[.agg #[.slice so sl sc, .slice so2 sl2 sc2, .slice so3 sl3 sc3]] w fun e w' => e = .returned (.string (rKA kE kC lE lN lA)) ∧ Keep NoB w w' := by
  obtain ⟨hn, hE⟩ := hE
  obtain ⟨hn2, hN⟩ := hN
  replace hn : sl = lE.length := hn
  replace hn2 : sl2 = lN.length := hn2
  rw [← hn] at hlE
  rw [← hn2] at hlN
  obtain ⟨hn3, hA⟩ := hA
  replace hn3 : sl3 = lA.length := hn3
  rw [← hn3] at hlA
  obtain ⟨wb, hwb⟩ : ∃ wb, wb = w.alloc (.cells #[.slice so sl sc, .slice so2 sl2 sc2, .slice so3 sl3 sc3] 39) := ⟨_, rfl⟩
  have kb : Keep NoB w wb := hwb ▸ Keep.alloc _ _ _
  have hbb : wb.heap[w.heap.size]? = some (.cells #[.slice so sl sc, .slice so2 sl2 sc2, .slice so3 sl3 sc3] 39 (0, 0)) := hwb ▸ (MapKept.heap_alloc w _).1
  have HBX := Bx.mk (show ∀ x, Keep NoB wb x → x.cell? ⟨w.heap.size, 0, none⟩ = some (.slice so sl sc) ∧ x.cell? ⟨w.heap.size, 1, none⟩ = some (.slice so2 sl2 sc2) ∧ x.cell? ⟨w.heap.size, 2, none⟩ = some (.slice so3 sl3 sc3) from fun x kx => by
    have hbx := kx.heap hbb (NoB.not _)
    exact ⟨by rw [cell_cells hbx]; rfl, by rw [cell_cells hbx]; rfl, by rw [cell_cells hbx]; rfl⟩)
  have HA := Bx.mk (And.intro hn (And.intro hE (And.intro hk (And.intro bE (And.intro k0 kb)))))
  have HA2 := Bx.mk (And.intro hn2 (And.intro hN (And.intro hvs (And.intro bN k0))))
  have HA3 := Bx.mk (And.intro hn3 (And.intro hA (And.intro hkC (And.intro hfA (And.intro bA k0)))))
  clear hn hE hk bE hn2 hN hvs bN k0 kb hbb hn3 hA hkC hfA bA
  go_enter Tryz.func10, Tryz.ntmps10
  go_wp2_with fail
  rw [← hwb]
  clear hwb
  go_loopg [3, 4] sl (fun g s i wr => ∃ j : Nat, j + g = sl ∧ i = .int .i64 j ∧ s = .string (catF (entP kE) (lE.take j)) ∧ Keep NoB wb wr)
  case atStart => exact ⟨0, by omega, rfl, rfl, Keep.refl _ _⟩
  case round =>
    obtain ⟨j, hj, rfl, rfl, hkr⟩ := hrel
    have HK := Bx.mk hkr
    clear hkr
    have hq := HBX.out wr HK.out
    obtain ⟨q0, q1, q2⟩ := hq
    have hcs : (catF (entP kE) (lE.take j)).size ≤ 400000 := Nat.le_trans (catF_take _ lE j) HA.out.2.2.2.1
    obtain ⟨S, hS⟩ : ∃ S, S = catF (entP kE) (lE.take j) := ⟨_, rfl⟩
    rw [← hS] at hcs ⊢
    have HS := Bx.mk hS
    clear hS
    by_cases hlt : j < sl
    · obtain ⟨hm, hE, hkk, hB, k0, kb⟩ := HA.out
      rcases hE with h0 | ⟨bv, offv, hso, hMv, hcell⟩
      · subst h0
        exact absurd hlt (by rw [hm]; simp)
      replace hso : so = some ⟨bv, offv, none⟩ := hso
      have hjl : j < lE.length := by omega
      obtain ⟨p, hp⟩ : ∃ p, lE[j]? = some p := ⟨_, List.getElem?_eq_getElem hjl⟩
      obtain ⟨cs, hcl, hcs8, ps, ats, k, s, el, al, rfl, hent⟩ := hcell j p hp
      have hsz := Nat.le_trans (catF_mem (entP kE) lE j p hp) hB
      unfold entP at hsz
      rw [ByteArray.size_append] at hsz
      have hg1 := frm_ge p.1
      have hg2 := frm_ge (kE p.2)
      obtain ⟨nj, hnj⟩ : ∃ nj, nj = p.1 := ⟨_, rfl⟩
      obtain ⟨kj, hkj⟩ : ∃ kj, kj = kE p.2 := ⟨_, rfl⟩
      obtain ⟨tb, htb⟩ : ∃ tb, tb = p.2.tags.isSome := ⟨_, rfl⟩
      have hEK := hkk p (List.mem_of_getElem? hp) _ _ _ _ _ _ hent
      rw [← htb] at hEK hcs8
      rw [← hnj] at hEK hcs8 hg1 hsz
      rw [← hkj] at hEK hg2 hsz
      have hbnd : nj.size ≤ 400000 ∧ kj.size ≤ 400000 := ⟨by omega, by omega⟩
      have hfb : (frm nj).size + (frm kj).size ≤ 400000 := hsz
      have HEK := Bx.mk (show ∀ x, Keep NoB wr x → Calls Tryz.prog 26 #[.agg #[.string nj, slV ps, slV ats, .bool tb, .int .i64 k, .string s, slV el, slV al]] x fun e w' => e = .returned (.string kj) ∧ Keep NoB x w' from fun x kx => hEK x (((k0.then kb).then HK.out).then kx))
      have HQ := Bx.mk (show ∀ x, Keep NoB wr x → x.cell? ⟨w.heap.size, 0, none⟩ = some (.slice so sl sc) ∧ x.cell? ⟨bv, offv + j * 8, none⟩ = some (.string nj) ∧ x.cell? ⟨bv, offv + j * 8 + 1, none⟩ = some (slV ps) ∧ x.cell? ⟨bv, offv + j * 8 + 2, none⟩ = some (slV ats) ∧ x.cell? ⟨bv, offv + j * 8 + 3, none⟩ = some (.bool tb) ∧ x.cell? ⟨bv, offv + j * 8 + 4, none⟩ = some (.int .i64 k) ∧ x.cell? ⟨bv, offv + j * 8 + 5, none⟩ = some (.string s) ∧ x.cell? ⟨bv, offv + j * 8 + 6, none⟩ = some (slV el) ∧ x.cell? ⟨bv, offv + j * 8 + 7, none⟩ = some (slV al) from fun x kx => by
        have hc := hcs8.keep (((k0.then kb).then HK.out).then kx) (NoB.not _)
        exact ⟨(HBX.out x (HK.out.then kx)).1, hc 0 _ rfl, hc 1 _ rfl, hc 2 _ rfl, hc 3 _ rfl, hc 4 _ rfl, hc 5 _ rfl, hc 6 _ rfl, hc 7 _ rfl⟩)
      have HP := Bx.mk (And.intro hp (And.intro hnj hkj))
      subst hso
      obtain ⟨po, pn, pc⟩ := ps
      obtain ⟨ao, an, ac⟩ := ats
      obtain ⟨eo, en, ec⟩ := el
      obtain ⟨lo, ln, lc⟩ := al
      clear hm hkk hB k0 kb hMv hcell hcl hcs8 hent hsz hg1 hg2 htb hEK hp hnj hkj hjl q1 q2
      simp only [slV] at HEK HQ
      have hs1 : ¬ 9223372036854775807 < (frm nj).size + (frm kj).size := by omega
      have hs2 : ¬ 9223372036854775807 < S.size + ((frm nj).size + (frm kj).size) := by omega
      go_upto_region 5 with fail
      have hK0 : Keep NoB wr wr.drew := Keep.drew _ _
      have hq := HQ.out _ hK0
      obtain ⟨q0, q1, q2, q3, q4, q5, q6, q7, q8⟩ := hq
      go_region_held3 (fun x => Keep NoB wr x ∧ x.cell? ⟨w.heap.size, 0, none⟩ = some (.slice (some ⟨bv, offv, none⟩) sl sc) ∧ x.cell? ⟨bv, offv + j * 8, none⟩ = some (.string nj) ∧ x.cell? ⟨bv, offv + j * 8 + 1, none⟩ = some (.slice po pn pc) ∧ x.cell? ⟨bv, offv + j * 8 + 2, none⟩ = some (.slice ao an ac) ∧ x.cell? ⟨bv, offv + j * 8 + 3, none⟩ = some (.bool tb) ∧ x.cell? ⟨bv, offv + j * 8 + 4, none⟩ = some (.int .i64 k) ∧ x.cell? ⟨bv, offv + j * 8 + 5, none⟩ = some (.string s) ∧ x.cell? ⟨bv, offv + j * 8 + 6, none⟩ = some (.slice eo en ec) ∧ x.cell? ⟨bv, offv + j * 8 + 7, none⟩ = some (.slice lo ln lc))
        (with_reducible (first
          | exact ⟨kwA, HQ.out _ kwA⟩
          | exact ⟨hK0, HQ.out _ hK0⟩
          | assumption))
        ((first
          | (go_at_call 26
             refine (HEK.out _ (by go_split_ands; assumption)).mono ?_
             rintro e w4 ⟨rfl, k4⟩
             have kwA : Keep NoB wr w4 := Keep.then (by go_split_ands; assumption) k4)
          | (go_at_call 25
             refine (framed_c _ (by omega) _).mono ?_
             rintro e w4 ⟨rfl, k4⟩
             have kwA : Keep NoB wr w4 := Keep.then (by go_split_ands; assumption) k4)))
      have KA := Bx.mk kwA
      clear kwA k4 hK0 q0 q1 q2 q3 q4 q5 q6 q7 q8 hs1 hs2
      go_wp2_with fail
      go_roundg (gk - 1)
      case measure => omega
      case rel =>
        refine ⟨j + 1, by omega, by go_num, ?_, HK.out.then KA.out⟩
        obtain ⟨hp, hnj, hkj⟩ := HP.out
        obtain ⟨hjl, rfl⟩ := List.getElem?_eq_some_iff.1 hp
        rw [List.take_succ_eq_append_getElem hjl, catF_snoc, HS.out, hnj, hkj]
        rfl
    · have hjm : j = sl := by omega
      have hSE : S = catF (entP kE) lE := by rw [HS.out, hjm, HA.out.1, List.take_length]
      have HSE := Bx.mk hSE
      clear hSE
      subst hjm
      go_wp2_with fail
      refine (framed_c S (by omega) _).mono ?_
      rintro e w5 ⟨rfl, k5⟩
      have hfs := frm_size (s := S) (by omega)
      have hF : (frm S).size ≤ 400008 := by omega
      obtain ⟨F, hFe⟩ : ∃ F, F = frm S := ⟨_, rfl⟩
      rw [← hFe] at hF ⊢
      have HF := Bx.mk (And.intro hFe (HK.out.then k5))
      clear hfs hFe k5 q0 q1 q2
      go_wp2_with fail
      go_loopg [3, 5] sl2 (fun g s i wr => ∃ j : Nat, j + g = sl2 ∧ i = .int .i64 j ∧ s = .string (F ++ catF enumP (lN.take j)) ∧ Keep NoB wb wr)
      case atStart => exact ⟨0, by omega, rfl, congrArg Value.string (ByteArray.append_empty (b := F)).symm, HF.out.2⟩
      case round =>
        obtain ⟨j2, hj2, rfl, rfl, hkr⟩ := hrel
        have HK2 := Bx.mk hkr
        clear hkr
        obtain ⟨q0, q1, q2⟩ := HBX.out wr HK2.out
        have hcs2 : (catF enumP (lN.take j2)).size ≤ 400000 := Nat.le_trans (catF_take _ lN j2) HA2.out.2.2.2.1
        have hcs3 : (F ++ catF enumP (lN.take j2)).size ≤ 800008 := by rw [ByteArray.size_append]; omega
        obtain ⟨S2, hS2⟩ : ∃ S2, S2 = F ++ catF enumP (lN.take j2) := ⟨_, rfl⟩
        rw [← hS2] at hcs3 ⊢
        have HS2 := Bx.mk hS2
        clear hS2 hcs2
        by_cases hlt2 : j2 < sl2
        · obtain ⟨hm, hN, hvs, hB, k0⟩ := HA2.out
          rcases hN with h0 | ⟨bv, offv, hso, hMv, hcell⟩
          · subst h0
            exact absurd hlt2 (by rw [hm]; simp)
          replace hso : so2 = some ⟨bv, offv, none⟩ := hso
          have hjl : j2 < lN.length := by omega
          obtain ⟨p, hp⟩ : ∃ p, lN[j2]? = some p := ⟨_, List.getElem?_eq_getElem hjl⟩
          obtain ⟨cs, hcl, hcs8, ⟨vo, vn, vc⟩, rfl, hent⟩ := hcell j2 p hp
          have hsz := Nat.le_trans (catF_mem enumP lN j2 p hp) hB
          unfold enumP at hsz
          rw [ByteArray.size_append] at hsz
          have hg1 := frm_ge p.1
          have hg2 := frm_ge (catK p.2)
          have hvl := hvs p (List.mem_of_getElem? hp)
          obtain ⟨nj, hnj⟩ : ∃ nj, nj = p.1 := ⟨_, rfl⟩
          obtain ⟨kj, hkj⟩ : ∃ kj, kj = namesK p.2 := ⟨_, rfl⟩
          have hsz2 : (frm p.1).size + (namesK p.2).size ≤ 400000 := hsz
          have hck : (catK p.2).size ≤ 900000 := Nat.le_trans hg2 (by show (namesK p.2).size ≤ _; omega)
          have HEK := Bx.mk (show ∀ x, Keep NoB wr x → Calls Tryz.prog 27 #[.slice vo vn vc] x fun e w' => e = .returned (.string kj) ∧ Keep NoB x w' from fun x kx => by
            rw [hkj]
            exact namesKey_c w0 M p.2 vo vn vc hent hvl hck x (((k0.then HA.out.2.2.2.2.2).then HK2.out).then kx))
          rw [← hnj] at hcs8 hg1 hsz2
          rw [← hkj] at hsz2
          have hbnd : nj.size ≤ 400000 ∧ kj.size ≤ 400000 := ⟨by omega, by omega⟩
          have hfb : (frm nj).size + kj.size ≤ 400000 := hsz2
          have HQ := Bx.mk (show ∀ x, Keep NoB wr x → x.cell? ⟨w.heap.size, 1, none⟩ = some (.slice so2 sl2 sc2) ∧ x.cell? ⟨bv, offv + j2 * 2, none⟩ = some (.string nj) ∧ x.cell? ⟨bv, offv + j2 * 2 + 1, none⟩ = some (.slice vo vn vc) from fun x kx => by
            have hc := hcs8.keep (((k0.then HA.out.2.2.2.2.2).then HK2.out).then kx) (NoB.not _)
            exact ⟨(HBX.out x (HK2.out.then kx)).2.1, hc 0 _ rfl, hc 1 _ rfl⟩)
          have HP := Bx.mk (And.intro hp (And.intro hnj hkj))
          subst hso
          clear hm hvs hB k0 hMv hcell hcl hcs8 hent hsz hg1 hg2 hvl hsz2 hck hp hnj hkj hjl q0 q2
          have hs1 : ¬ 9223372036854775807 < (frm nj).size + kj.size := by omega
          have hs2 : ¬ 9223372036854775807 < S2.size + ((frm nj).size + kj.size) := by omega
          go_upto_region 10 with fail
          have hK0 : Keep NoB wr wr.drew := Keep.drew _ _
          have hq := HQ.out _ hK0
          obtain ⟨q0, q1, q2⟩ := hq
          go_region_held3 (fun x => Keep NoB wr x ∧ x.cell? ⟨w.heap.size, 1, none⟩ = some (.slice (some ⟨bv, offv, none⟩) sl2 sc2) ∧ x.cell? ⟨bv, offv + j2 * 2, none⟩ = some (.string nj) ∧ x.cell? ⟨bv, offv + j2 * 2 + 1, none⟩ = some (.slice vo vn vc))
            (with_reducible (first
              | exact ⟨kwA, HQ.out _ kwA⟩
              | exact ⟨hK0, HQ.out _ hK0⟩
              | assumption))
            ((first
              | (go_at_call 27
                 refine (HEK.out _ (by go_split_ands; assumption)).mono ?_
                 rintro e w4 ⟨rfl, k4⟩
                 have kwA : Keep NoB wr w4 := Keep.then (by go_split_ands; assumption) k4)
              | (go_at_call 25
                 refine (framed_c _ (by omega) _).mono ?_
                 rintro e w4 ⟨rfl, k4⟩
                 have kwA : Keep NoB wr w4 := Keep.then (by go_split_ands; assumption) k4)))
          have KA := Bx.mk kwA
          clear kwA k4 hK0 q0 q1 q2 hs1 hs2
          go_wp2_with fail
          go_roundg (gk - 1)
          case measure => omega
          case rel =>
            refine ⟨j2 + 1, by omega, by go_num, ?_, HK2.out.then KA.out⟩
            obtain ⟨hp, hnj, hkj⟩ := HP.out
            obtain ⟨hjl, rfl⟩ := List.getElem?_eq_some_iff.1 hp
            rw [List.take_succ_eq_append_getElem hjl, catF_snoc, HS2.out, hnj, hkj, ByteArray.append_assoc]
            rfl
        · have hjm : j2 = sl2 := by omega
          have HSE2 := Bx.mk (show S2 = F ++ catF enumP lN by rw [HS2.out, hjm, HA2.out.1, List.take_length])
          subst hjm
          go_wp2_with fail
          refine (framed_c S2 (by omega) _).mono ?_
          rintro e w6 ⟨rfl, k6⟩
          have K6 := Bx.mk (HK2.out.then k6)
          clear k6 q0 q1 q2
          have hfs2 := frm_size (s := S2) (by omega)
          have hF2 : (frm S2).size ≤ 800016 := by omega
          obtain ⟨F2, hFe2⟩ : ∃ F2, F2 = frm S2 := ⟨_, rfl⟩
          rw [← hFe2] at hF2 ⊢
          have HF2 := Bx.mk (show F2 = rK kE lE lN by rw [hFe2, HSE2.out, HF.out.1, HSE.out]; rfl)
          clear hfs2 hFe2
          go_wp2_with fail
          go_loopg [3, 6] sl3 (fun g s i wr => ∃ j : Nat, j + g = sl3 ∧ i = .int .i64 j ∧ s = .string (F2 ++ catF (actP kC) (lA.take j)) ∧ Keep NoB wb wr)
          case atStart => exact ⟨0, by omega, rfl, congrArg Value.string (ByteArray.append_empty (b := F2)).symm, K6.out⟩
          case round =>
            obtain ⟨j3, hj3, rfl, rfl, hkr⟩ := hrel
            have HK3 := Bx.mk hkr
            clear hkr
            obtain ⟨q0, q1, q2⟩ := HBX.out wr HK3.out
            have hcs4 : (catF (actP kC) (lA.take j3)).size ≤ 400000 := Nat.le_trans (catF_take _ lA j3) HA3.out.2.2.2.2.1
            have hcs5 : (F2 ++ catF (actP kC) (lA.take j3)).size ≤ 1300000 := by rw [ByteArray.size_append]; omega
            obtain ⟨S3, hS3⟩ : ∃ S3, S3 = F2 ++ catF (actP kC) (lA.take j3) := ⟨_, rfl⟩
            rw [← hS3] at hcs5 ⊢
            have HS3 := Bx.mk hS3
            clear hS3 hcs4
            by_cases hlt3 : j3 < sl3
            · obtain ⟨hm, hA, hkC, hfA, hB, k0⟩ := HA3.out
              rcases hA with h0 | ⟨bv, offv, hso, hMv, hcell⟩
              · subst h0
                exact absurd hlt3 (by rw [hm]; simp)
              replace hso : so3 = some ⟨bv, offv, none⟩ := hso
              have hjl : j3 < lA.length := by omega
              obtain ⟨⟨⟨u1, u2⟩, a⟩, hp⟩ : ∃ p, lA[j3]? = some p := ⟨_, List.getElem?_eq_getElem hjl⟩
              obtain ⟨cs, hcl, hcs7, ⟨po, pn, pc⟩, ⟨xo, xn, xc⟩, ⟨yo, yn, yc⟩, ⟨zo, zn, zc⟩, rfl, hact⟩ := hcell j3 _ hp
              dsimp only [slV] at hcs7 hact
              have hsz := Nat.le_trans (catF_mem (actP kC) lA j3 _ hp) hB
              obtain ⟨hf1, hf2⟩ := hfA _ (List.mem_of_getElem? hp)
              dsimp only at hf1 hf2
              have hck := hkC _ (List.mem_of_getElem? hp)
              dsimp only at hck
              unfold actP at hsz
              dsimp only at hsz
              simp only [ByteArray.size_append] at hsz
              have hg1 := frm_ge u1
              have hg2 := frm_ge u2
              have hgu : (catF uidP a.parents).size ≤ (uidsK a.parents).size := frm_ge _
              obtain ⟨ab, hab⟩ : ∃ ab, ab = a.app.isSome := ⟨_, rfl⟩
              rw [← hab] at hcs7 hsz
              obtain ⟨U, hU⟩ : ∃ U, U = uidsK a.parents := ⟨_, rfl⟩
              rw [← hU] at hsz hgu
              obtain ⟨wd, hwd⟩ : ∃ wd, wd = wr.alloc (.cells #[.string u1, .string u2, .slice po pn pc, .bool ab, .slice xo xn xc, .slice yo yn yc, .slice zo zn zc] 48) := ⟨_, rfl⟩
              have kd : Keep NoB wr wd := hwd ▸ Keep.alloc _ _ _
              have hbd : wd.heap[wr.heap.size]? = some (.cells #[.string u1, .string u2, .slice po pn pc, .bool ab, .slice xo xn xc, .slice yo yn yc, .slice zo zn zc] 48 (0, 0)) := hwd ▸ (MapKept.heap_alloc wr _).1
              have k0d : Keep NoB w0 wd := (((k0.then HA.out.2.2.2.2.2).then HK3.out).then kd)
              have HEU := Bx.mk (show ∀ x, Keep NoB wd x → Calls Tryz.prog 28 #[.slice po pn pc] x fun e w' => e = .returned (.string U) ∧ Keep NoB x w' from fun x kx => by
                rw [hU]
                exact uidsKey_c w0 M a.parents po pn pc hact.par hf1 (by omega) x (k0d.then kx))
              have HQ := Bx.mk (show ∀ x, Keep NoB wd x → x.cell? ⟨wr.heap.size, 0, none⟩ = some (.string u1) ∧ x.cell? ⟨wr.heap.size, 1, none⟩ = some (.string u2) ∧ x.cell? ⟨wr.heap.size, 2, none⟩ = some (.slice po pn pc) ∧ x.cell? ⟨wr.heap.size, 3, none⟩ = some (.bool ab) ∧ x.cell? ⟨wr.heap.size, 4, none⟩ = some (.slice xo xn xc) ∧ x.cell? ⟨wr.heap.size, 5, none⟩ = some (.slice yo yn yc) ∧ x.cell? ⟨wr.heap.size, 6, none⟩ = some (.slice zo zn zc) from fun x kx => by
                have hbx := kx.heap hbd (NoB.not _)
                refine ⟨?_, ?_, ?_, ?_, ?_, ?_, ?_⟩ <;> (rw [cell_cells hbx]; rfl))
              have hc7 := hcs7.keep ((k0.then HA.out.2.2.2.2.2).then HK3.out) (NoB.not _)
              have d0 := hc7 0 _ rfl
              have d1 := hc7 1 _ rfl
              have d2 := hc7 2 _ rfl
              have d3 := hc7 3 _ rfl
              have d4 := hc7 4 _ rfl
              have d5 := hc7 5 _ rfl
              have d6 := hc7 6 _ rfl
              rw [Nat.add_zero] at d0
              have hfl : (flagS ab).size ≤ 1 := by cases ab <;> exact Nat.le_refl _
              have HP := Bx.mk (And.intro hp (And.intro hU (And.intro hab (And.intro hact.app (And.intro hf2 (And.intro hck (And.intro k0d kd)))))))
              have hbnd : u1.size ≤ 400000 ∧ u2.size ≤ 400000 := ⟨by omega, by omega⟩
              obtain ⟨hbn1, hbn2⟩ := hbnd
              have hx1 : (frm u1).size + (frm u2).size ≤ 400000 := by omega
              have hx2 : (frm u1).size + (frm u2).size + U.size ≤ 400000 := by omega
              have HZ := Bx.mk hsz
              subst hso
              clear hm hkC hfA hB k0 hMv hcell hcl hcs7 hact hsz hf1 hf2 hck hg1 hg2 hgu hab hU kd hbd k0d hc7 hp hjl q0 q1
              have hs1 : ¬ 9223372036854775807 < (frm u1).size + (frm u2).size := by omega
              have hs2 : ¬ 9223372036854775807 < (frm u1).size + (frm u2).size + U.size := by omega
              have hs3 : ¬ 9223372036854775807 < (frm u1).size + (frm u2).size + U.size + (flagS ab).size := by omega
              have hs4 : ¬ 9223372036854775807 < S3.size + ((frm u1).size + (frm u2).size + U.size + (flagS ab).size) := by omega
              go_upto_region 16 with fail
              rw [← hwd]
              have HWD := Bx.mk hwd
              clear hwd d0 d1 d2 d3 d4 d5 d6 q2
              have hK0 : Keep NoB wd wd.drew := Keep.drew _ _
              have hq := HQ.out _ hK0
              obtain ⟨c0, c1, c2, c3, c4, c5, c6⟩ := hq
              go_region_held3 (fun x => Keep NoB wd x ∧ x.cell? ⟨wr.heap.size, 0, none⟩ = some (.string u1) ∧ x.cell? ⟨wr.heap.size, 1, none⟩ = some (.string u2) ∧ x.cell? ⟨wr.heap.size, 2, none⟩ = some (.slice po pn pc) ∧ x.cell? ⟨wr.heap.size, 3, none⟩ = some (.bool ab) ∧ x.cell? ⟨wr.heap.size, 4, none⟩ = some (.slice xo xn xc) ∧ x.cell? ⟨wr.heap.size, 5, none⟩ = some (.slice yo yn yc) ∧ x.cell? ⟨wr.heap.size, 6, none⟩ = some (.slice zo zn zc))
                (with_reducible (first
                  | exact ⟨kwA, HQ.out _ kwA⟩
                  | exact ⟨hK0, HQ.out _ hK0⟩
                  | assumption))
                ((first
                  | (go_at_call 28
                     refine (HEU.out _ (by go_split_ands; assumption)).mono ?_
                     rintro e w4 ⟨rfl, k4⟩
                     have kwA : Keep NoB wd w4 := Keep.then (by go_split_ands; assumption) k4)
                  | (go_at_call 29
                     refine (flag_k _ _).mono ?_
                     rintro e w4 ⟨rfl, k4⟩
                     have kwA : Keep NoB wd w4 := Keep.then (by go_split_ands; assumption) k4)
                  | (go_at_call 25
                     refine (framed_c _ (by omega) _).mono ?_
                     rintro e w4 ⟨rfl, k4⟩
                     have kwA : Keep NoB wd w4 := Keep.then (by go_split_ands; assumption) k4)))
              have KA := Bx.mk kwA
              clear kwA k4 hK0 c0 c1 c2 c3 c4 c5 c6 hs1 hs2 hs3 hs4
              obtain ⟨S4, hS4⟩ : ∃ S4, S4 = S3 ++ (frm u1 ++ frm u2 ++ U ++ flagS ab) := ⟨_, rfl⟩
              rw [← hS4]
              have hz4 : S4.size ≤ 1800000 := by rw [hS4]; simp only [ByteArray.size_append]; omega
              have HS4 := Bx.mk hS4
              clear hS4 hfl
              obtain ⟨_, _, _, e3, _, _, _⟩ := HQ.out _ KA.out
              cases happ : a.app with
              | none =>
                have HAP := Bx.mk happ
                obtain rfl : ab = false := by rw [HP.out.2.2.1, happ]; rfl
                clear happ
                go_wp2_with fail
                go_roundg (gk - 1)
                case measure => omega
                case rel =>
                  refine ⟨j3 + 1, by omega, by go_num, ?_, (HK3.out.then HP.out.2.2.2.2.2.2.2).then KA.out⟩
                  obtain ⟨hp, hU, _⟩ := HP.out
                  obtain ⟨hjl, hel⟩ := List.getElem?_eq_some_iff.1 hp
                  have e : actP kC ((u1, u2), a) = frm u1 ++ frm u2 ++ uidsK a.parents ++ flagS false := by
                    unfold actP
                    dsimp only
                    rw [HAP.out]
                    exact ByteArray.append_empty
                  rw [List.take_succ_eq_append_getElem hjl, catF_snoc, HS4.out, HS3.out, hel, hU, ByteArray.append_assoc, e]
              | some z =>
                obtain ⟨z1, z2, z3⟩ := z
                have HAP := Bx.mk happ
                obtain rfl : ab = true := by rw [HP.out.2.2.1, happ]; rfl
                obtain ⟨-, -, -, hap, hff, hck, k0d, kd⟩ := HP.out
                obtain ⟨hr1, hr2, hr3⟩ := hap _ happ
                obtain ⟨hl1, hl2⟩ := hff _ happ
                have hcx := hck _ happ (zo, zn, zc) hr3
                dsimp only at hr1 hr2 hl1 hl2 hcx
                have hsz := HZ.out
                rw [happ] at hsz
                unfold appK at hsz
                simp only [ByteArray.size_append] at hsz
                have hg1 : (catK z1).size ≤ (namesK z1).size := frm_ge _
                have hg2 : (catK z2).size ≤ (namesK z2).size := frm_ge _
                have hg3 := frm_ge (kC z3)
                obtain ⟨N1, hN1⟩ : ∃ N1, N1 = namesK z1 := ⟨_, rfl⟩
                obtain ⟨N2, hN2⟩ : ∃ N2, N2 = namesK z2 := ⟨_, rfl⟩
                obtain ⟨C3, hC3⟩ : ∃ C3, C3 = kC z3 := ⟨_, rfl⟩
                rw [← hN1, ← hN2, ← hC3] at hsz
                rw [← hN1] at hg1
                rw [← hN2] at hg2
                rw [← hC3] at hg3 hcx
                have HN := Bx.mk (show ∀ o n c k, ((o = xo ∧ n = xn ∧ c = xc ∧ k = N1) ∨ (o = yo ∧ n = yn ∧ c = yc ∧ k = N2)) → ∀ x, Keep NoB wd x → Calls Tryz.prog 27 #[.slice o n c] x fun e w' => e = .returned (.string k) ∧ Keep NoB x w' from by
                  rintro o n c k (⟨rfl, rfl, rfl, rfl⟩ | ⟨rfl, rfl, rfl, rfl⟩) x kx
                  · rw [hN1]; exact namesKey_c w0 M z1 _ _ _ hr1 hl1 (by omega) x (k0d.then kx)
                  · rw [hN2]; exact namesKey_c w0 M z2 _ _ _ hr2 hl2 (by omega) x (k0d.then kx))
                have HC := Bx.mk (show ∀ x, Keep NoB wd x → Calls Tryz.prog 30 #[.slice zo zn zc] x fun e w' => e = .returned (.string C3) ∧ Keep NoB x w' from fun x kx => hcx x (k0d.then kx))
                have hb3 : C3.size ≤ 400000 := by omega
                have hy1 : N1.size + N2.size + (frm C3).size ≤ 400000 := by omega
                have hs1 : ¬ 9223372036854775807 < N1.size + N2.size := by omega
                have hs2 : ¬ 9223372036854775807 < N1.size + N2.size + (frm C3).size := by omega
                have hs3 : ¬ 9223372036854775807 < S4.size + (N1.size + N2.size + (frm C3).size) := by omega
                have HNN := Bx.mk (And.intro hN1 (And.intro hN2 hC3))
                clear happ hap hff hck k0d kd hr1 hr2 hr3 hl1 hl2 hcx hsz hg1 hg2 hg3 hN1 hN2 hC3 hy1
                go_wp2_with fail
                clear e3
                have hK0 : Keep NoB wd w4.drew := KA.out.then (Keep.drew _ _)
                obtain ⟨c0, c1, c2, c3, c4, c5, c6⟩ := HQ.out _ hK0
                go_region_held3 (fun x => Keep NoB wd x ∧ x.cell? ⟨wr.heap.size, 0, none⟩ = some (.string u1) ∧ x.cell? ⟨wr.heap.size, 1, none⟩ = some (.string u2) ∧ x.cell? ⟨wr.heap.size, 2, none⟩ = some (.slice po pn pc) ∧ x.cell? ⟨wr.heap.size, 3, none⟩ = some (.bool true) ∧ x.cell? ⟨wr.heap.size, 4, none⟩ = some (.slice xo xn xc) ∧ x.cell? ⟨wr.heap.size, 5, none⟩ = some (.slice yo yn yc) ∧ x.cell? ⟨wr.heap.size, 6, none⟩ = some (.slice zo zn zc))
                  (with_reducible (first
                    | exact ⟨kwB, HQ.out _ kwB⟩
                    | exact ⟨hK0, HQ.out _ hK0⟩
                    | assumption))
                  ((first
                    | (go_at_call 30
                       refine (HC.out _ (by go_split_ands; assumption)).mono ?_
                       rintro e w5 ⟨rfl, k5⟩
                       have kwB : Keep NoB wd w5 := Keep.then (by go_split_ands; assumption) k5)
                    | (go_at_call 25
                       refine (framed_c _ (by omega) _).mono ?_
                       rintro e w5 ⟨rfl, k5⟩
                       have kwB : Keep NoB wd w5 := Keep.then (by go_split_ands; assumption) k5)
                    | (go_at_call 27
                       refine (HN.out _ _ _ _ (by first | exact .inl ⟨rfl, rfl, rfl, rfl⟩ | exact .inr ⟨rfl, rfl, rfl, rfl⟩) _ (by go_split_ands; assumption)).mono ?_
                       rintro e w5 ⟨rfl, k5⟩
                       have kwB : Keep NoB wd w5 := Keep.then (by go_split_ands; assumption) k5)))
                have KB := Bx.mk kwB
                clear kwB k5 hK0 c0 c1 c2 c3 c4 c5 c6 hs1 hs2 hs3
                go_wp2_with fail
                go_roundg (gk - 1)
                case measure => omega
                case rel =>
                  refine ⟨j3 + 1, by omega, by go_num, ?_, (HK3.out.then HP.out.2.2.2.2.2.2.2).then KB.out⟩
                  obtain ⟨hp, hU, _⟩ := HP.out
                  obtain ⟨hN1, hN2, hC3⟩ := HNN.out
                  obtain ⟨hjl, hel⟩ := List.getElem?_eq_some_iff.1 hp
                  have e : actP kC ((u1, u2), a) = frm u1 ++ frm u2 ++ uidsK a.parents ++ flagS true ++ (namesK z1 ++ namesK z2 ++ frm (kC z3)) := by
                    unfold actP
                    dsimp only
                    rw [HAP.out]
                    rfl
                  rw [List.take_succ_eq_append_getElem hjl, catF_snoc, HS4.out, HS3.out, hel, hU, hN1, hN2, hC3, e]
                  simp only [ByteArray.append_assoc]
            · have hjm : j3 = sl3 := by omega
              have HSE3 := Bx.mk (show S3 = rKA kE kC lE lN lA by rw [HS3.out, hjm, HA3.out.1, List.take_length, HF2.out]; rfl)
              go_wp2_with fail
              go_ret
              exact ⟨by rw [HSE3.out]; rfl, HA.out.2.2.2.2.2.then HK3.out⟩
end Go.Proofs.YtedgonoeeeiilaaGreatDoor
