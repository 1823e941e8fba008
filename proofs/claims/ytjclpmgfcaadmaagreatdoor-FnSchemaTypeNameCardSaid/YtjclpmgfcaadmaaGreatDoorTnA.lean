/- FnSchemaTypeName: spec.Reserved, laws.word. -/
import Derived.Test.YtjclpmgfcaadmaaGreatDoorTnP
namespace Go.Proofs.YtjclpmgfcaadmaaGreatDoor
open Go.RowKit Go.Lib

theorem mem_any (t : Str) (l : List Str) : decide (t ∈ l) = l.any fun y => t.toList == y.toList := by
  rw [Bool.eq_iff_iff, List.any_eq_true]
  constructor
  · intro h
    exact ⟨t, of_decide_eq_true h, by simp⟩
  · rintro ⟨y, hy, h⟩
    rw [toList_beq.1 h]
    exact decide_eq_true hy
theorem kws_any (t : Str) : decide (t ∈ kws) = (t.toList == [116, 114, 117, 101] || (t.toList == [102, 97, 108, 115, 101] || (t.toList == [105, 102] || (t.toList == [116, 104, 101, 110] || (t.toList == [101, 108, 115, 101] || (t.toList == [105, 110] || (t.toList == [108, 105, 107, 101] || (t.toList == [104, 97, 115] || (t.toList == [105, 115] || (t.toList == [95, 95, 99, 101, 100, 97, 114] || false)))))))))) := by
  rw [mem_any]
  have hl : kws.map (fun y => y.toList) = [[116, 114, 117, 101], [102, 97, 108, 115, 101], [105, 102], [116, 104, 101, 110], [101, 108, 115, 101], [105, 110], [108, 105, 107, 101], [104, 97, 115], [105, 115], [95, 95, 99, 101, 100, 97, 114]] := by kernel_rfl
  rw [show (kws.any fun y => t.toList == y.toList) = (kws.map (fun y => y.toList)).any (fun y => t.toList == y) by rw [List.any_map]; rfl, hl]
  rfl
set_option maxRecDepth 100000 in
set_option maxHeartbeats 4000000 in
theorem specReserved_c (t : ByteArray) (w : World) : Calls Tryz.prog 11 #[.string t] w fun e w' => e = .returned (.bool (decide (t ∈ kws))) ∧ w' = w := by
  obtain ⟨r, hr⟩ : ∃ r, r = decide (t ∈ kws) := ⟨_, rfl⟩
  rw [← hr]
  have HR := Lib.hid hr
  clear hr
  go_enter Tryz.func11, Tryz.ntmps11
  go_wp2_with fail
  all_goals
    first
      | (exfalso; simp_all; done)
      | (go_ret
         refine ⟨ret_bool ?_, rfl⟩
         rw [HR.out, kws_any]
         simp [*])
set_option maxRecDepth 100000 in
set_option maxHeartbeats 4000000 in
theorem lawWord_c (t : ByteArray) (w : World) (ht : t.size ≤ 100) : Calls Tryz.prog 5 #[.string t] w fun e w' => (∃ b, e = .returned (.bool b) ∧ (b = true → NameOk t)) ∧ w' = w := by
  go_enter Tryz.func5, Tryz.ntmps5
  go_wp2_with fail
  go_loopg [3] (t.size + 1) (fun g i wr => ∃ j : Nat, (j ≤ t.size ∧ j + g = t.size + 1) ∧ i = .int .i64 j ∧ ((∀ k, k < j → isCont (at8 t k) = true) ∧ (0 < j → isStart (at8 t 0) = true)) ∧ wr = w)
  case atStart => exact ⟨0, ⟨by omega, by omega⟩, rfl, ⟨fun k hk => by omega, fun h => by omega⟩, rfl⟩
  case round =>
    obtain ⟨j, ⟨hj0, hj⟩, rfl, hbl, hwr⟩ := hrel
    obtain rfl : w = wr := hwr.symm
    have HB := Lib.hid hbl
    clear hbl
    by_cases hlt : j < t.size
    · obtain ⟨c, hc⟩ : ∃ c, (t[j]).toNat = c := ⟨_, rfl⟩
      have HC := Lib.hid (show at8 t j = c from (at8_get hlt).symm.trans hc)
      have h1 : (j : Int) < (t.size : Int) := by omega
      go_wp2_with fail
      all_goals
        first
          | (go_ret
             exact ⟨.inl rfl, rfl⟩)
          | (go_roundg (gk - 1)
             case measure => omega
             case rel =>
               refine ⟨j + 1, ⟨by omega, by omega⟩, by go_num, ⟨fun k hk => ?_, fun _ => ?_⟩, rfl⟩
               · by_cases hkj : k = j
                 · rw [hkj, HC.out]; unfold isCont isStart; simp at * <;> omega
                 · exact HB.out.1 k (by omega)
               · by_cases hjz : j = 0
                 · have hc0 := HC.out; rw [hjz] at hc0; rw [hc0]; unfold isStart; simp at * <;> omega
                 · exact HB.out.2 (by omega))
    · have h1 : ¬ (j : Int) < (t.size : Int) := by omega
      have hje : j = t.size := by omega
      have HE := Lib.hid hje
      clear hje
      go_wp2_with fail
      · go_ret
        exact ⟨.inl rfl, rfl⟩
      · have hz : 0 < t.size := by
          rcases Nat.eq_zero_or_pos t.size with h0 | h0
          · have : t.toList = [] := by
              rw [show t = (⟨#[]⟩ : ByteArray) from ext8 h0 (fun i hi => by omega)]; kernel_rfl
            contradiction
          · exact h0
        have HZ := Lib.hid hz
        clear hz
        obtain ⟨r, hr⟩ : ∃ r, r = decide (t ∈ kws) := ⟨_, rfl⟩
        have HR := Lib.hid hr
        have HS := Lib.hid (specReserved_c t w)
        rw [← hr] at HS
        clear hr
        refine HS.out.mono ?_
        rintro e w' ⟨rfl, rfl⟩
        cases r
        · go_wp2_with fail
          go_ret
          refine ⟨⟨_, rfl, fun _ => ?_⟩, rfl⟩
          exact ⟨HZ.out, ht, HB.out.2 (by have := HE.out; have := HZ.out; omega), fun i hi => HB.out.1 i (by have := HE.out; omega), of_decide_eq_false HR.out.symm⟩
        · go_wp2_with fail
          go_ret
          exact ⟨⟨_, rfl, fun h => by cases h⟩, rfl⟩
end Go.Proofs.YtjclpmgfcaadmaaGreatDoor
