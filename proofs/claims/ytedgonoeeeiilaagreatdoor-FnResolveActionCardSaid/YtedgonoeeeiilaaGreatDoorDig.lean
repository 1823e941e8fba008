/- The walk of digits: a number from 0 on, written with at least so many digits. -/
import Derived.Test.YtedgonoeeeiilaaGreatDoorIs
import Derived.Laws.IdiomStrings
namespace Go.Proofs.YtedgonoeeeiilaaGreatDoor
open Go.RowKit

/-- the sign of the last digit -/
def dg (m : Nat) : UInt8 := UInt8.ofNat (48 + m % 10)
theorem dg_toNat (m : Nat) : (dg m).toNat = 48 + m % 10 := by unfold dg; rw [UInt8.toNat_ofNat']; omega
def dig (n w : Nat) : List UInt8 := if _h : n = 0 ∧ w = 0 then [] else dig (n / 10) (w - 1) ++ [dg n]
termination_by n + w
decreasing_by
  have : n / 10 ≤ n := Nat.div_le_self _ _
  rcases Nat.eq_zero_or_pos n with h0 | h0
  · have hw : w ≠ 0 := fun e => _h ⟨h0, e⟩
    omega
  · have : n / 10 < n := Nat.div_lt_self h0 (by omega)
    omega
theorem dig_zero : dig 0 0 = [] := by rw [dig]; simp
theorem dig_step {n w : Nat} (h : ¬ (n = 0 ∧ w = 0)) : dig n w = dig (n / 10) (w - 1) ++ [dg n] := by
  rw [dig, dif_neg h]
def digS (n w : Nat) : Str := ⟨(dig n w).toArray⟩

theorem conv_digit (m : Nat) (w : World) : (convert 56 9 (.slice (some ⟨w.heap.size, 0, none⟩) 1 1)).run Tryz.prog (w.alloc (.cells #[.int .u8 (48 + (m : Int) % 10)] 5)) = .ok (.string ⟨[dg m].toArray⟩) (w.alloc (.cells #[.int .u8 (48 + (m : Int) % 10)] 5)) := by
  refine run_convert_bytes_back (P := Tryz.prog) _ _ _ 5 ⟨w.heap.size, 0, none⟩ 1 [dg m] Tryz.underlying56 Tryz.underlying5 Tryz.underlying9 ?_
  intro j hj
  have hj0 : j = 0 := by simp at hj; omega
  subst hj0
  rw [show (⟨w.heap.size, 0, none⟩ : Addr).add 0 = ⟨w.heap.size, 0, none⟩ by simp [Addr.add], cell_cells (MapKept.heap_alloc w _).1]
  show some (Value.int .u8 (48 + (m : Int) % 10)) = some (Value.int .u8 ((dg m).toNat : Int))
  rw [dg_toNat]
  congr 2
theorem conv_digit0 (w : World) : (convert 56 9 (.slice (some ⟨w.heap.size, 0, none⟩) 1 1)).run Tryz.prog (w.alloc (.cells #[.int .u8 48] 5)) = .ok (.string ⟨[dg 0].toArray⟩) (w.alloc (.cells #[.int .u8 48] 5)) := conv_digit 0 w
theorem dig_round {n w m : Nat} {suf : List UInt8} (hd : dig n w = dig m (w - suf.length) ++ suf) (h : ¬ (m = 0 ∧ w - suf.length = 0)) : dig n w = dig (m / 10) (w - (dg m :: suf).length) ++ (dg m :: suf) := by
  rw [hd, dig_step h, List.append_assoc, List.length_cons, show w - (suf.length + 1) = w - suf.length - 1 by omega]; rfl
theorem dig_str (d : UInt8) (suf : List UInt8) : (⟨[d].toArray⟩ : Str) ++ ⟨suf.toArray⟩ = ⟨(d :: suf).toArray⟩ := by
  apply ByteArray.ext
  rw [ByteArray.data_append]
  simp

set_option maxRecDepth 100000 in
set_option maxHeartbeats 4000000 in
theorem digits_c (n w : Nat) (hn : n ≤ 1000000) (hw : w ≤ 1000) (wd : World) : Calls Tryz.prog 5 #[.int .u64 n, .int .i64 w] wd fun e w' => e = .returned (.string (digS n w)) ∧ Keep NoB wd w' := by
  go_enter Tryz.func5, Tryz.ntmps5
  go_wp2_with fail
  go_loopg [0, 5] (n + w) (fun g x s wr => ∃ (m : Nat) (suf : List UInt8), x = .int .u64 m ∧ s = .string ⟨suf.toArray⟩ ∧ m ≤ n ∧ suf.length ≤ 2000000 - m - (w - suf.length) ∧ g = m + (w - suf.length) ∧ dig n w = dig m (w - suf.length) ++ suf ∧ Keep NoB wd wr)
  case atStart => exact ⟨n, [], rfl, rfl, Nat.le_refl _, by simp, by simp, by simp, Keep.refl _ _⟩
  case round =>
    obtain ⟨m, suf, rfl, rfl, hm, hs, hg, hd, hk⟩ := hrel
    have HR := Lib.hid (And.intro hg (And.intro hd hk))
    have hsz : (⟨suf.toArray⟩ : ByteArray).size = suf.length := rfl
    have HSZ := Lib.hid hsz
    clear hg hd hk hsz
    have hm0 : (0 : Int) ≤ (m : Int) := by omega
    have hlen : suf.length ≤ 2000000 := by omega
    have hq : (m : Int) / 10 = ((m / 10 : Nat) : Int) := by omega
    have HQ := Lib.hid hq
    clear hq
    by_cases hend : m = 0 ∧ w ≤ suf.length
    · obtain ⟨rfl, hw2⟩ := hend
      have hnl : ¬ ((suf.length : Int) < (w : Int)) := by omega
      go_wp2_with fail
      go_ret
      obtain ⟨hg, hd, hk⟩ := HR.out
      refine ⟨?_, hk⟩
      rw [show w - suf.length = 0 by omega, dig_zero, List.nil_append] at hd
      rw [digS, hd]; rfl
    · have hnn : ¬ (m = 0 ∧ w - suf.length = 0) := fun h => hend ⟨h.1, by omega⟩
      have HN := Lib.hid hnn
      clear hnn
      by_cases h1 : 0 < m
      · have h1' : (0 : Int) < (m : Int) := by omega
        clear hend
        have hconv := conv_digit m wr
        go_wp2_with fail
        have hm10 : m / 10 < m := Nat.div_lt_self h1 (by omega)
        rw [HQ.out]
        go_roundg (m / 10 + (w - (suf.length + 1)))
        case measure => have := HR.out.1; omega
        case rel =>
          obtain ⟨hg, hd, hk⟩ := HR.out
          exact ⟨m / 10, dg m :: suf, rfl, by rw [dig_str], by omega, by simp only [List.length_cons]; omega, by simp only [List.length_cons], dig_round hd HN.out, hk.then (Keep.alloc _ _ _)⟩
      · have hm00 : m = 0 := by omega
        subst hm00
        have hl : (suf.length : Int) < (w : Int) := by omega
        have hl' : suf.length < w := by omega
        clear hend h1
        have hconv := conv_digit0 wr
        go_wp2_with fail
        go_roundg (0 + (w - (suf.length + 1)))
        case measure => have := HR.out.1; omega
        case rel =>
          obtain ⟨hg, hd, hk⟩ := HR.out
          exact ⟨0, dg 0 :: suf, rfl, congrArg Value.string (by apply ByteArray.ext; simp [ByteArray.data_append]), by omega, by simp only [List.length_cons]; omega, by simp only [List.length_cons], dig_round hd (by omega), hk.then (Keep.alloc _ _ _)⟩
end Go.Proofs.YtedgonoeeeiilaaGreatDoor
