/- The keys that the laws write of resolved schemas: the walks of framed, namesKey, flag. -/
import Derived.Test.YthhjehajdcgkhaaGreatDoorRes
import Derived.Test.YthhjehajdcgkhaaGreatDoorShP
namespace Go.Proofs.YthhjehajdcgkhaaGreatDoor
open Go.RowKit

theorem dig_short (k : Nat) : ∀ n w, n < 10 ^ k → (dig n w).length ≤ max k w := by
  induction k with
  | zero =>
    intro n w hn
    have h0 : n = 0 := by simpa using hn
    subst h0
    have := dig_len 0 w
    omega
  | succ k ih =>
    intro n w hn
    by_cases h : n = 0 ∧ w = 0
    · rw [dig, dif_pos h]; simp
    · rw [dig_step h, List.length_append, List.length_singleton]
      have h1 : n / 10 < 10 ^ k := by rw [Nat.pow_succ] at hn; omega
      have := ih (n / 10) (w - 1) h1
      omega
theorem digS_short {n : Nat} (h : n < 10000000) : (digS n 1).size ≤ 7 := by
  have h1 : (digS n 1).size = (dig n 1).length := rfl
  have := dig_short 7 n 1 (by omega)
  omega

/-- a text behind its length -/
def frm (s : Str) : Str := digS s.size 1 ++ ⟨#[58]⟩ ++ s
theorem frm_size {s : Str} (h : s.size < 10000000) : (frm s).size ≤ s.size + 8 := by
  have h1 := digS_short h
  unfold frm
  rw [ByteArray.size_append, ByteArray.size_append]
  have h2 : (⟨#[58]⟩ : Str).size = 1 := rfl
  omega
theorem frm_ge (s : Str) : s.size ≤ (frm s).size := by
  unfold frm
  rw [ByteArray.size_append]
  omega
set_option maxRecDepth 100000 in
theorem framed_c (s : Str) (hs : s.size ≤ 1000000) (w : World) : Calls Tryz.prog 29 #[.string s] w fun e w' => e = .returned (.string (frm s)) ∧ Keep NoB w w' := by
  have h1 := digS_short (n := s.size) (by omega)
  go_enter Tryz.func29, Tryz.ntmps29
  go_wp2_with fail
  refine (digits_c s.size 1 hs (by omega) _).mono ?_
  rintro e w1 ⟨rfl, k1⟩
  have K1 := Lib.hid k1
  clear k1
  go_wp2_with fail
  go_ret
  exact ⟨rfl, K1.out⟩

/-- texts of a list's members, one behind the other -/
def catF {α : Type} (f : α → Str) (l : List α) : Str := l.foldl (fun acc x => acc ++ f x) ⟨#[]⟩
theorem catF_snoc {α : Type} (f : α → Str) (l : List α) (x : α) : catF f (l ++ [x]) = catF f l ++ f x := by
  unfold catF; rw [List.foldl_append]; rfl
theorem foldl_size {α : Type} (f : α → Str) (l : List α) : ∀ a : Str, a.size ≤ (l.foldl (fun acc x => acc ++ f x) a).size := by
  induction l with
  | nil => intro a; exact Nat.le_refl _
  | cons x l ih =>
    intro a
    have := ih (a ++ f x)
    rw [ByteArray.size_append] at this
    simp only [List.foldl_cons]
    omega
theorem catF_take {α : Type} (f : α → Str) (l : List α) (j : Nat) : (catF f (l.take j)).size ≤ (catF f l).size := by
  have h : l = l.take j ++ l.drop j := (List.take_append_drop j l).symm
  conv => rhs; rw [h]
  unfold catF
  rw [List.foldl_append]
  exact foldl_size _ _ _
theorem catF_mem {α : Type} (f : α → Str) (l : List α) (j : Nat) (x : α) (h : l[j]? = some x) : (f x).size ≤ (catF f l).size := by
  obtain ⟨hj, rfl⟩ := List.getElem?_eq_some_iff.1 h
  have h1 := catF_take f l (j + 1)
  rw [List.take_succ_eq_append_getElem hj, catF_snoc, ByteArray.size_append] at h1
  omega
abbrev catK (l : List Str) : Str := catF frm l
/-- a list of names -/
def namesK (l : List Str) : Str := frm (catK l)

set_option maxRecDepth 100000 in
set_option maxHeartbeats 4000000 in
theorem namesKey_c (w0 : World) (M : Nat → Prop) (l : List Str) (o : Option Addr) (n c : Nat) (h : StrsAt w0 M l (.slice o n c)) (hn : l.length ≤ 1000000) (hB : (catK l).size ≤ 900000) (w : World) (k0 : Keep NoB w0 w) :
    Calls Tryz.prog 31 #[.slice o n c] w fun e w' => e = .returned (.string (namesK l)) ∧ Keep NoB w w' := by
  have hz : ∀ x ∈ l, x.size ≤ 900000 := fun x hx => by
    obtain ⟨j, hj⟩ := List.getElem?_of_mem hx
    have h1 := catF_mem frm l j x hj
    have h2 := frm_ge x
    have h3 : (catF frm l).size ≤ 900000 := hB
    omega
  obtain ⟨ov, cc, he, hc⟩ := h
  simp only [Value.slice.injEq] at he
  obtain ⟨rfl, rfl, rfl⟩ := he
  obtain ⟨m, hm⟩ : ∃ m, m = l.length := ⟨_, rfl⟩
  rw [← hm] at hc hn ⊢
  have HA := Lib.hid (And.intro hm (And.intro hc (And.intro hB (And.intro hz k0))))
  clear hm hc hB hz k0
  go_enter Tryz.func31, Tryz.ntmps31
  go_wp2_with fail
  go_loopg [3, 4] m (fun g s i wr => ∃ j : Nat, j + g = m ∧ i = .int .i64 j ∧ s = .string (catK (l.take j)) ∧ Keep NoB w wr)
  case atStart => exact ⟨0, by omega, rfl, rfl, Keep.refl _ _⟩
  case round =>
    obtain ⟨j, hj, rfl, rfl, hk⟩ := hrel
    have HK := Lib.hid hk
    clear hk
    have hcs : (catK (l.take j)).size ≤ 900000 := Nat.le_trans (catF_take frm l j) HA.out.2.2.1
    by_cases hlt : j < m
    · obtain ⟨hm, hc, hB, hz, k0⟩ := HA.out
      rcases hc with h0 | ⟨bv, offv, rfl, hMv, hcell⟩
      · omega
      have hcv := (hcell j hlt).2.keep (k0.then HK.out) (NoB.not _) 0 _ rfl
      simp only [Nat.mul_one, Nat.add_zero] at hcv
      obtain ⟨vj, hvj⟩ : ∃ vj, vj = l.getD j ⟨#[]⟩ := ⟨_, rfl⟩
      rw [← hvj] at hcv
      have hjl : j < l.length := by omega
      have hv : vj = l[j] := by rw [hvj, List.getD_eq_getElem?_getD, List.getElem?_eq_getElem hjl]; rfl
      have hvz : vj.size ≤ 900000 := by rw [hv]; exact hz _ (List.getElem_mem hjl)
      have hfz := frm_size (s := vj) (by omega)
      have hfz' : (frm vj).size ≤ 1000000 := by omega
      have HV := Lib.hid (show ∃ h : j < l.length, vj = l[j] from ⟨hjl, hv⟩)
      obtain ⟨S, hS⟩ : ∃ S, S = catK (l.take j) := ⟨_, rfl⟩
      rw [← hS] at hcs ⊢
      have HS := Lib.hid hS
      clear hm hB hz k0 hMv hcell hvj hv hjl hfz hS
      go_wp2_with fail
      refine (framed_c vj (by omega) _).mono ?_
      rintro e w3 ⟨rfl, k3⟩
      have K3 := Lib.hid k3
      clear k3 hcv
      go_wp2_with fail
      go_roundg (gk - 1)
      case measure => omega
      case rel =>
        obtain ⟨hjl, hv⟩ := HV.out
        refine ⟨j + 1, by omega, by go_num, ?_, HK.out.then K3.out⟩
        rw [List.take_succ_eq_append_getElem hjl, show catK (l.take j ++ [l[j]]) = _ from catF_snoc _ _ _, ← hv, HS.out]
    · have hjm : j = m := by omega
      subst hjm
      have hl : catK (l.take j) = catK l := by rw [HA.out.1, List.take_length]
      rw [hl] at hcs ⊢
      clear hl
      go_wp2_with fail
      refine (framed_c (catK l) (by omega) _).mono ?_
      rintro e w3 ⟨rfl, k3⟩
      have K3 := Lib.hid k3
      clear k3
      go_wp2_with fail
      go_ret
      exact ⟨rfl, HK.out.then K3.out⟩

def flagS (b : Bool) : Str := if b then ⟨#[43]⟩ else ⟨#[45]⟩
theorem flag_c (b : Bool) (w : World) : Calls Tryz.prog 33 #[.bool b] w fun e w' => e = .returned (.string (flagS b)) ∧ w' = w := by
  cases b <;> (go_enter Tryz.func33, Tryz.ntmps33; go_wp2; go_ret; exact ⟨rfl, rfl⟩)
end Go.Proofs.YthhjehajdcgkhaaGreatDoor
