/- The walk of before. -/
import Derived.Test.YthhjehajdcgkhaaGreatDoorKey
import Derived.Test.YthhjehajdcgkhaaGreatDoorShW
import Derived.IntWalk
import Derived.BigQuiet
namespace Go.Proofs.YthhjehajdcgkhaaGreatDoor
open Go.RowKit

theorem lt_drop {a b : Str} {j : Nat} (ha : j < a.size) (hb : j < b.size) (h : ¬ a.data.toList.drop j < b.data.toList.drop j) :
    (a[j] ≠ b[j] → ¬ a[j] < b[j]) ∧ (a[j] = b[j] → ¬ a.data.toList.drop (j + 1) < b.data.toList.drop (j + 1)) := by
  have e1 : a.data.toList.drop j = a[j] :: a.data.toList.drop (j + 1) := List.drop_eq_getElem_cons (by simpa using ha)
  have e2 : b.data.toList.drop j = b[j] :: b.data.toList.drop (j + 1) := List.drop_eq_getElem_cons (by simpa using hb)
  rw [e1, e2, List.cons_lt_cons_iff] at h
  exact ⟨fun _ h1 => h (.inl h1), fun h1 h2 => h (.inr ⟨h1, h2⟩)⟩

set_option maxRecDepth 100000 in
set_option maxHeartbeats 4000000 in
/-- Where a is not ahead of b, the answer is no. -/
theorem before_c (a b : Str) (h : leS b a) (hz : a.size ≤ 1000000) (w : World) : Calls Tryz.prog 72 #[.string a, .string b] w fun e w' => e = .returned (.bool false) ∧ Keep NoB w w' := by
  have h0 : ¬ a.data.toList.drop 0 < b.data.toList.drop 0 := h
  have H0 := Lib.hid h0
  clear h h0
  go_enter Tryz.func72, Tryz.ntmps72
  go_wp2_with fail
  go_loopg [5] (a.size + 1) (fun g i wr => ∃ j : Nat, j + g = a.size + 1 ∧ i = .int .i64 j ∧ j ≤ a.size ∧ j ≤ b.size ∧ ¬ a.data.toList.drop j < b.data.toList.drop j ∧ Keep NoB w wr)
  case atStart => exact ⟨0, by omega, rfl, by omega, by omega, H0.out, Keep.refl _ _⟩
  case round =>
    obtain ⟨j, hj, rfl, hja, hjb, hd, hk⟩ := hrel
    have HK := Lib.hid (And.intro hk hd)
    clear hk hd
    by_cases ha : j < a.size
    · by_cases hb : j < b.size
      · have h1 : (j : Int) < (a.size : Int) := by omega
        have h2 : (j : Int) < (b.size : Int) := by omega
        obtain ⟨hl1, hl2⟩ := lt_drop ha hb HK.out.2
        by_cases he : a[j] = b[j]
        · have hb1 : ((((a[j]).toNat : Nat) : Int) != (((b[j]).toNat : Nat) : Int)) = false := by rw [he]; simp
          have H2 := Lib.hid (hl2 he)
          clear hl1 hl2 he
          go_upto_region 4 with fail
          go_quiet (fail)
          go_wp2_with fail
          go_roundg (gk - 1)
          case measure => omega
          case rel => exact ⟨j + 1, by omega, by go_num, by omega, by omega, H2.out, HK.out.1.then (Keep.drewN _ _ _)⟩
        · have hlt' : ¬ (a[j]).toNat < (b[j]).toNat := fun h => hl1 he (UInt8.lt_iff_toNat_lt.2 h)
          have hne' : (a[j]).toNat ≠ (b[j]).toNat := fun h => he (UInt8.toNat_inj.1 h)
          have hb1 : ((((a[j]).toNat : Nat) : Int) != (((b[j]).toNat : Nat) : Int)) = true := bne_iff_ne.2 (by omega)
          have hb2 : decide ((((a[j]).toNat : Nat) : Int) < (((b[j]).toNat : Nat) : Int)) = false := decide_eq_false (by omega)
          have HL := Lib.hid hlt'
          clear hl1 hl2 he hlt' hne' hb2
          go_upto_region 4 with fail
          go_quiet (fail)
          go_wp2_with fail
          obtain ⟨w2, hw2⟩ : ∃ w2, w2 = wr.drewN nq := ⟨_, rfl⟩
          have K2 := Lib.hid (show Keep NoB wr w2 from hw2 ▸ Keep.drewN _ _ _)
          rw [← hw2]
          clear hw2
          go_quiet (fail)
          go_wp2_with fail
          go_ret
          exact ⟨congrArg (fun b => Ending.returned (Value.bool b)) (decide_eq_false HL.out), (HK.out.1.then K2.out).then (Keep.drewN _ _ _)⟩
      · have h1 : (j : Int) < (a.size : Int) := by omega
        have h2 : ¬ (j : Int) < (b.size : Int) := by omega
        have h3 : ¬ (a.size : Int) < (b.size : Int) := by omega
        go_wp2_with fail
        go_ret
        exact ⟨rfl, HK.out.1⟩
    · have hja' : j = a.size := by omega
      have h1 : ¬ (j : Int) < (a.size : Int) := by omega
      have h3 : ¬ (a.size : Int) < (b.size : Int) := fun h => by
        refine HK.out.2 ?_
        have e1 : a.data.toList.drop j = [] := List.drop_eq_nil_of_le (by rw [Array.length_toList]; exact Nat.le_of_eq hja'.symm)
        have e3 : b.data.toList.length = b.size := by rw [Array.length_toList]; rfl
        have e2 : j < b.data.toList.length := by omega
        rw [e1, List.drop_eq_getElem_cons e2]
        exact List.nil_lt_cons _ _
      clear hja'
      go_wp2_with fail
      go_ret
      exact ⟨rfl, HK.out.1⟩
end Go.Proofs.YthhjehajdcgkhaaGreatDoor
