/- The keys that the laws write of schemas, at this seat: digits, framed, flag (texts of Dig and Key, turned to this seat). -/
import Derived.Test.YtjclpmgfcaadmaaGreatDoorLxF
import Derived.Laws.IdiomStrings
namespace Go.Proofs.YtjclpmgfcaadmaaGreatDoor
open Go.RowKit

/-- the sign of the last digit -/
def dg (m : Nat) : UInt8 := UInt8.ofNat (48 + m % 10)
theorem dg_toNat (m : Nat) : (dg m).toNat = 48 + m % 10 := by unfold dg; rw [UInt8.toNat_ofNat']; omega
def dig (n w : Nat) : List UInt8 := if h : n = 0 ∧ w = 0 then [] else dig (n / 10) (w - 1) ++ [dg n]
termination_by n + w
decreasing_by
  have : n / 10 ≤ n := Nat.div_le_self _ _
  rcases Nat.eq_zero_or_pos n with h0 | h0
  · have hw : w ≠ 0 := fun e => h ⟨h0, e⟩
    omega
  · have : n / 10 < n := Nat.div_lt_self h0 (by omega)
    omega
theorem dig_zero : dig 0 0 = [] := by rw [dig]; simp
theorem dig_step {n w : Nat} (h : ¬ (n = 0 ∧ w = 0)) : dig n w = dig (n / 10) (w - 1) ++ [dg n] := by
  rw [dig, dif_neg h]
def digS (n w : Nat) : Str := ⟨(dig n w).toArray⟩

theorem conv_digit (m : Nat) (w : World) : (convert 50 9 (.slice (some ⟨w.heap.size, 0, none⟩) 1 1)).run Tryz.prog (w.alloc (.cells #[.int .u8 (48 + (m : Int) % 10)] 5)) = .ok (.string ⟨[dg m].toArray⟩) (w.alloc (.cells #[.int .u8 (48 + (m : Int) % 10)] 5)) := by
  refine run_convert_bytes_back (P := Tryz.prog) _ _ _ 5 ⟨w.heap.size, 0, none⟩ 1 [dg m] Tryz.underlying50 Tryz.underlying5 Tryz.underlying9 ?_
  intro j hj
  have hj0 : j = 0 := by simp at hj; omega
  subst hj0
  rw [show (⟨w.heap.size, 0, none⟩ : Addr).add 0 = ⟨w.heap.size, 0, none⟩ by simp [Addr.add], cellIn (MapKept.heap_alloc w _).1]
  show some (Value.int .u8 (48 + (m : Int) % 10)) = some (Value.int .u8 ((dg m).toNat : Int))
  rw [dg_toNat]
  congr 2
theorem conv_digit0 (w : World) : (convert 50 9 (.slice (some ⟨w.heap.size, 0, none⟩) 1 1)).run Tryz.prog (w.alloc (.cells #[.int .u8 48] 5)) = .ok (.string ⟨[dg 0].toArray⟩) (w.alloc (.cells #[.int .u8 48] 5)) := conv_digit 0 w
theorem dig_round {n w m : Nat} {suf : List UInt8} (hd : dig n w = dig m (w - suf.length) ++ suf) (h : ¬ (m = 0 ∧ w - suf.length = 0)) : dig n w = dig (m / 10) (w - (dg m :: suf).length) ++ (dg m :: suf) := by
  rw [hd, dig_step h, List.append_assoc, List.length_cons, show w - (suf.length + 1) = w - suf.length - 1 by omega]; rfl
theorem dig_str (d : UInt8) (suf : List UInt8) : (⟨[d].toArray⟩ : Str) ++ ⟨suf.toArray⟩ = ⟨(d :: suf).toArray⟩ := by
  apply ByteArray.ext
  rw [ByteArray.data_append]
  simp

set_option maxRecDepth 100000 in
set_option maxHeartbeats 4000000 in
theorem digits_c (n w : Nat) (hn : n ≤ 1000000) (hw : w ≤ 1000) (wd : World) : Calls Tryz.prog 61 #[.int .u64 n, .int .i64 w] wd fun e w' => e = .returned (.string (digS n w)) ∧ Keep NoB wd w' := by
  go_enter Tryz.func61, Tryz.ntmps61
  go_wp2_with fail
  go_loopg [0, 5] (n + w) (fun g x s wr => ∃ (m : Nat) (suf : List UInt8), x = .int .u64 m ∧ s = .string ⟨suf.toArray⟩ ∧ m ≤ n ∧ suf.length ≤ 2000000 - m - (w - suf.length) ∧ g = m + (w - suf.length) ∧ dig n w = dig m (w - suf.length) ++ suf ∧ Keep NoB wd wr)
  case atStart => exact ⟨n, [], rfl, rfl, Nat.le_refl _, by simp, by simp, by simp, Keep.refl _ _⟩
  case round =>
    obtain ⟨m, suf, rfl, rfl, hm, hs, hg, hd, hk⟩ := hrel
    have HR := Lib.hid (And.intro hg (And.intro hd hk))
    have hsz : (⟨suf.toArray⟩ : ByteArray).size = suf.length := rfl
    have HSZ := Lib.hid hsz
    clear hg hd hk hsz
    have hm0 : (0 : Int) ≤ (m : Int) := by omega
    have hlen : suf.length ≤ 2000000 := by omega
    have hq : (m : Int) / 10 = ((m / 10 : Nat) : Int) := by omega
    have HQ := Lib.hid hq
    clear hq
    by_cases hend : m = 0 ∧ w ≤ suf.length
    · obtain ⟨rfl, hw2⟩ := hend
      have hnl : ¬ ((suf.length : Int) < (w : Int)) := by omega
      go_wp2_with fail
      go_ret
      obtain ⟨hg, hd, hk⟩ := HR.out
      refine ⟨?_, hk⟩
      rw [show w - suf.length = 0 by omega, dig_zero, List.nil_append] at hd
      rw [digS, hd]; rfl
    · have hnn : ¬ (m = 0 ∧ w - suf.length = 0) := fun h => hend ⟨h.1, by omega⟩
      have HN := Lib.hid hnn
      clear hnn
      by_cases h1 : 0 < m
      · have h1' : (0 : Int) < (m : Int) := by omega
        clear hend
        have hconv := conv_digit m wr
        go_wp2_with fail
        have hm10 : m / 10 < m := Nat.div_lt_self h1 (by omega)
        rw [HQ.out]
        go_roundg (m / 10 + (w - (suf.length + 1)))
        case measure => have := HR.out.1; omega
        case rel =>
          obtain ⟨hg, hd, hk⟩ := HR.out
          exact ⟨m / 10, dg m :: suf, rfl, by rw [dig_str], by omega, by simp only [List.length_cons]; omega, by simp only [List.length_cons], dig_round hd HN.out, hk.then (Keep.alloc _ _ _)⟩
      · have hm00 : m = 0 := by omega
        subst hm00
        have hl : (suf.length : Int) < (w : Int) := by omega
        have hl' : suf.length < w := by omega
        clear hend h1
        have hconv := conv_digit0 wr
        go_wp2_with fail
        go_roundg (0 + (w - (suf.length + 1)))
        case measure => have := HR.out.1; omega
        case rel =>
          obtain ⟨hg, hd, hk⟩ := HR.out
          exact ⟨0, dg 0 :: suf, rfl, congrArg Value.string (by apply ByteArray.ext; simp [ByteArray.data_append]), by omega, by simp only [List.length_cons]; omega, by simp only [List.length_cons], dig_round hd (by omega), hk.then (Keep.alloc _ _ _)⟩

theorem dig_len (n w : Nat) : (dig n w).length ≤ n + w := by
  induction n, w using dig.induct with
  | case1 n w h => rw [dig, dif_pos h]; simp
  | case2 n w h ih =>
    rw [dig_step h, List.length_append, List.length_singleton]
    rcases Nat.eq_zero_or_pos n with h0 | h0
    · have : w ≠ 0 := fun e => h ⟨h0, e⟩
      subst h0
      simp at ih ⊢
      omega
    · have : n / 10 < n := Nat.div_lt_self h0 (by omega)
      omega
theorem dig_short (k : Nat) : ∀ n w, n < 10 ^ k → (dig n w).length ≤ max k w := by
  induction k with
  | zero =>
    intro n w hn
    have h0 : n = 0 := by simpa using hn
    subst h0
    have := dig_len 0 w
    omega
  | succ k ih =>
    intro n w hn
    by_cases h : n = 0 ∧ w = 0
    · rw [dig, dif_pos h]; simp
    · rw [dig_step h, List.length_append, List.length_singleton]
      have h1 : n / 10 < 10 ^ k := by rw [Nat.pow_succ] at hn; omega
      have := ih (n / 10) (w - 1) h1
      omega
theorem digS_short {n : Nat} (h : n < 10000000) : (digS n 1).size ≤ 7 := by
  have h1 : (digS n 1).size = (dig n 1).length := rfl
  have := dig_short 7 n 1 (by omega)
  omega

/-- a text behind its length -/
def frm (s : Str) : Str := digS s.size 1 ++ ⟨#[58]⟩ ++ s
theorem frm_size {s : Str} (h : s.size < 10000000) : (frm s).size ≤ s.size + 8 := by
  have h1 := digS_short h
  unfold frm
  rw [ByteArray.size_append, ByteArray.size_append]
  have h2 : (⟨#[58]⟩ : Str).size = 1 := rfl
  omega
theorem frm_ge (s : Str) : s.size ≤ (frm s).size := by
  unfold frm
  rw [ByteArray.size_append]
  omega
set_option maxRecDepth 100000 in
theorem framed_c (s : Str) (hs : s.size ≤ 1000000) (w : World) : Calls Tryz.prog 42 #[.string s] w fun e w' => e = .returned (.string (frm s)) ∧ Keep NoB w w' := by
  have h1 := digS_short (n := s.size) (by omega)
  go_enter Tryz.func42, Tryz.ntmps42
  go_wp2_with fail
  refine (digits_c s.size 1 hs (by omega) _).mono ?_
  rintro e w1 ⟨rfl, k1⟩
  have K1 := Lib.hid k1
  clear k1
  go_wp2_with fail
  go_ret
  exact ⟨rfl, K1.out⟩

def flagS (b : Bool) : Str := if b then ⟨#[43]⟩ else ⟨#[45]⟩
theorem flag_c (b : Bool) (w : World) : Calls Tryz.prog 39 #[.bool b] w fun e w' => e = .returned (.string (flagS b)) ∧ w' = w := by
  cases b <;> (go_enter Tryz.func39, Tryz.ntmps39; go_wp2; go_ret; exact ⟨rfl, rfl⟩)
end Go.Proofs.YtjclpmgfcaadmaaGreatDoor
