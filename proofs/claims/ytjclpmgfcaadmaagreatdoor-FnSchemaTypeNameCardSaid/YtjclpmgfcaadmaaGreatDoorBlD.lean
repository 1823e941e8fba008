/- FnSchemaBlank: the lexer passes blanks and remarks. -/
import Derived.Test.YtjclpmgfcaadmaaGreatDoorBlC
namespace Go.Proofs.YtjclpmgfcaadmaaGreatDoor
open Go.RowKit Go.Shelf

set_option maxRecDepth 100000 in
set_option maxHeartbeats 8000000 in
theorem skip_c {w : World} {B : Nat} {o : Option Addr} {bb cap : Nat} {s : ByteArray} (hT : ∀ x, Keep (· = B) w x → Tabs x) (h : LexIs w B o bb cap s 0) (hbl : Bl s 0) (hs : s.size ≤ 3000) :
    Calls Tryz.prog 84 #[.pointer (some ⟨B, 0, none⟩)] w fun e w' => e = .returned .nilIface ∧ LexIs w' B o bb cap s s.size ∧ Keep (· = B) w w' := by
  have HT := Lib.hid hT
  have H0 := Lib.hid (And.intro h hbl)
  clear hT h hbl
  go_enter Tryz.func84, Tryz.ntmps84
  go_wp2_with fail
  go_loopg [] (s.size + 1) (fun g wr => ∃ j : Nat, j + g = s.size + 1 ∧ j ≤ s.size ∧ LexIs wr B o bb cap s j ∧ Bl s j ∧ Keep (· = B) w wr)
  case atStart => exact ⟨0, by omega, by omega, H0.out.1, H0.out.2, Keep.refl _ _⟩
  case round =>
    obtain ⟨j, hj, hjs, hl, hb, hk⟩ := hrel
    obtain ⟨l, c, f, hbk⟩ := hl.blk
    obtain ⟨e0, e1, _⟩ := lexCells hbk
    have HL := Lib.hid (And.intro hl (And.intro hb hk))
    clear hl hb hk hbk
    by_cases hlt : j < s.size
    · have h1 : (j : Int) < (s.size : Int) := by omega
      go_wp2_with fail
      go_quiet (fail)
      go_wp2_with fail
      obtain ⟨w1, hw1⟩ : ∃ w1, w1 = wr.drewN nq := ⟨_, rfl⟩
      have k1 : Keep NoB wr w1 := hw1 ▸ Keep.drewN _ _ _
      rw [← hw1]
      clear hw1 e0 e1
      have kB : ∀ x, Keep NoB wr x → Keep (· = B) w x := fun x k => HL.out.2.2.trans k (fun _ _ h => h) (fun _ _ h => h.elim)
      refine (peek_c (HT.out _ (kB _ k1)) (HL.out.1.keep k1) hlt hs).mono ?_
      rintro e w2 ⟨rfl, k2⟩
      have H2 := Lib.hid (And.intro (HL.out.1.keep (k1.then k2)) (kB _ (k1.then k2)))
      clear k1 k2 kB
      obtain ⟨R, hR⟩ : ∃ R, R = runeAt s j := ⟨_, rfl⟩
      rw [← hR]
      have HR := Lib.hid hR
      clear hR
      rcases HL.out.2.1.inv hlt with ⟨hws, hnx⟩ | ⟨hlt2, ha, hb, hcm⟩
      · have HN := Lib.hid hnx
        obtain ⟨hr1, hr2⟩ := rune_ascii (s := s) (k := j) (by rcases hws with h | h | h | h <;> omega)
        have hws' : isWs R := by rw [HR.out, hr1]; exact hws
        have HW := Lib.hid hr2
        clear hws hnx hr1 hr2
        rcases hws' with rfl | rfl | rfl | rfl <;>
        · go_wp2_with fail
          refine (advance_c (HT.out _ H2.out.2) H2.out.1 hlt hs).mono ?_
          rintro e w3 ⟨rfl, hl3, k3⟩
          have H3 := Lib.hid (And.intro hl3 k3)
          clear hl3 k3
          go_wp2_with fail
          go_roundg (gk - 1)
          case measure => omega
          case rel =>
            have h3 := H3.out.1
            rw [HW.out] at h3
            exact ⟨j + 1, by omega, by omega, h3, HN.out, H2.out.2.trans H3.out.2 (fun _ _ h => h) (fun _ _ h => h)⟩
      · obtain ⟨hr1, hr2⟩ := rune_ascii (s := s) (k := j) (by omega)
        have hRc : R = 47 := by rw [HR.out, hr1]; exact ha
        subst hRc
        rcases H2.out.1.src with h0 | ⟨ho, hne, hsj⟩
        · omega
        subst ho
        obtain ⟨l2, c2, f2, hbk2⟩ := H2.out.1.blk
        obtain ⟨e0, e1, _⟩ := lexCells hbk2
        have e2 := hsj (j + 1) hlt2
        rw [hb] at e2
        have hcap := H2.out.1.cap
        have HC := Lib.hid (And.intro hr2 (And.intro hcm hb))
        clear hr1 hr2 hcm ha hb hsj hbk2 hne
        have h2 : (j : Int) + 1 < (s.size : Int) := by omega
        go_wp2_with fail
        go_quiet (fail)
        go_wp2_with fail
        obtain ⟨w3, hw3⟩ : ∃ x, x = w2.drewN nq := ⟨_, rfl⟩
        have k3 : Keep NoB w2 w3 := hw3 ▸ Keep.drewN _ _ _
        rw [← hw3]
        have H3 := Lib.hid (And.intro (H2.out.1.keep k3) (H2.out.2.trans k3 (M'' := (· = B)) (fun _ _ h => h) (fun _ _ h => h.elim)))
        clear hw3 k3 e0 e1 e2
        refine (advance_c (HT.out _ H3.out.2) H3.out.1 hlt hs).mono ?_
        rintro e w4 ⟨rfl, hl4, k4⟩
        rw [HC.out.1] at hl4
        have H4 := Lib.hid (And.intro hl4 (H3.out.2.trans k4 (M'' := (· = B)) (fun _ _ h => h) (fun _ _ h => h)))
        clear hl4 k4
        go_wp2_with fail
        refine (advance_c (HT.out _ H4.out.2) H4.out.1 hlt2 hs).mono ?_
        rintro e w5 ⟨rfl, hl5, k5⟩
        rw [(rune_ascii (s := s) (k := j + 1) (by rw [HC.out.2.2]; omega)).2] at hl5
        have H5 := Lib.hid (And.intro hl5 (H4.out.2.trans k5 (M'' := (· = B)) (fun _ _ h => h) (fun _ _ h => h)))
        clear hl5 k5
        obtain ⟨go, hgo⟩ : ∃ x : Nat, x = gk := ⟨_, rfl⟩
        subst hgo
        go_wp2_with fail
        go_loopg [] (s.size - (j + 2)) (fun g wx => ∃ q : Nat, j + 2 ≤ q ∧ q + g = s.size ∧ LexIs wx B (some ⟨bb, 0, none⟩) bb cap s q ∧ Cm s q ∧ Keep (· = B) w wx)
        case atStart => exact ⟨j + 2, by omega, by omega, H5.out.1, HC.out.2.1, H5.out.2⟩
        case round =>
          obtain ⟨q, hjq, hq, hl, hcm, hk⟩ := hrel
          obtain ⟨l3, c3, f3, hbk3⟩ := hl.blk
          obtain ⟨e0, e1, _⟩ := lexCells hbk3
          have HM := Lib.hid (And.intro hl (And.intro hcm hk))
          have HQ := Lib.hid (show ∀ x, Keep NoB wr x → x.cell? ⟨B, 0, none⟩ = some (.slice (some ⟨bb, 0, none⟩) s.size cap) ∧ x.cell? ⟨B, 1, none⟩ = some (.int .i64 q) from fun x k => ⟨k.cell e0 (fun h => h), k.cell e1 (fun h => h)⟩)
          clear hl hcm hk hbk3
          by_cases hqt : q < s.size
          · have h3 : (q : Int) < (s.size : Int) := by omega
            obtain ⟨R, hR⟩ : ∃ R, R = runeAt s q := ⟨_, rfl⟩
            have HP := Lib.hid (show ∀ x, Keep NoB wr x → Calls Tryz.prog 86 #[.pointer (some ⟨B, 0, none⟩)] x fun e w' => e = .returned (.int .i32 R) ∧ Keep NoB x w' from fun x k => by
              rw [hR]
              exact peek_c (HT.out _ (HM.out.2.2.trans k (fun _ _ h => h) (fun _ _ h => h.elim))) (HM.out.1.keep k) hqt hs)
            have HR2 := Lib.hid hR
            clear hR e0 e1
            have hK0 : Keep NoB wr wr.drew := Keep.drew _ _
            obtain ⟨d0, d1⟩ := HQ.out _ hK0
            by_cases h10 : R = 10
            · subst h10
              go_upto_region 8 with fail
              go_region_held3 (fun x => x.cell? ⟨B, 0, none⟩ = some (.slice (some ⟨bb, 0, none⟩) s.size cap) ∧ x.cell? ⟨B, 1, none⟩ = some (.int .i64 q))
                (with_reducible (first | assumption | exact HQ.out _ kwA | exact HQ.out _ hK0))
                ((go_at_call 86
                  refine (HP.out _ hK0).mono ?_
                  rintro e w6 ⟨rfl, k6⟩
                  have kwA : Keep NoB wr w6 := hK0.then k6))
              all_goals
                have H6 := Lib.hid kwA
                clear kwA k6 d0 d1 hK0
                go_wp2_with fail
                go_roundg (s.size + 1 - q)
                case measure => omega
                case rel =>
                  obtain ⟨hb1, hb2⟩ := HM.out.2.1.end_nl hqt HR2.out.symm
                  exact ⟨q, by omega, by omega, HM.out.1.keep H6.out, .ws q hqt (.inr (.inr (.inr hb2))) hb1, HM.out.2.2.trans H6.out (fun _ _ h => h) (fun _ _ h => h.elim)⟩
            · have h8 : ((R : Int) != 10) = true := bne_iff_ne.2 (by omega)
              go_upto_region 8 with fail
              go_region_held3 (fun x => x.cell? ⟨B, 0, none⟩ = some (.slice (some ⟨bb, 0, none⟩) s.size cap) ∧ x.cell? ⟨B, 1, none⟩ = some (.int .i64 q))
                (with_reducible (first | assumption | exact HQ.out _ kwA | exact HQ.out _ hK0))
                ((go_at_call 86
                  refine (HP.out _ hK0).mono ?_
                  rintro e w6 ⟨rfl, k6⟩
                  have kwA : Keep NoB wr w6 := hK0.then k6))
              all_goals
                have H6 := Lib.hid (And.intro (HM.out.1.keep kwA) (HM.out.2.2.trans kwA (M'' := (· = B)) (fun _ _ h => h) (fun _ _ h => h.elim)))
                clear kwA k6 d0 d1 hK0
                go_wp2_with fail
                refine (advance_c (HT.out _ H6.out.2) H6.out.1 hqt hs).mono ?_
                rintro e w7 ⟨rfl, hl7, k7⟩
                have H7 := Lib.hid (And.intro hl7 k7)
                clear hl7 k7
                go_wp2_with fail
                obtain ⟨hwd1, hwd2, _⟩ := rune_wide hqt
                go_roundg (s.size - (q + wideAt s q))
                case measure => omega
                case rel => exact ⟨q + wideAt s q, by omega, by omega, H7.out.1, HM.out.2.1.pass hqt (by rw [← HR2.out]; exact h10), H6.out.2.trans H7.out.2 (fun _ _ h => h) (fun _ _ h => h)⟩
          · have h3 : ¬ (q : Int) < (s.size : Int) := by omega
            go_wp2_with fail
            go_quiet (fail)
            go_wp2_with fail
            go_roundg (s.size + 1 - q)
            case measure => omega
            case rel => exact ⟨q, by omega, by omega, HM.out.1.keep (Keep.drewN _ _ _), .stop q (by omega), HM.out.2.2.trans (Keep.drewN _ _ NoB) (fun _ _ h => h) (fun _ _ h => h.elim)⟩
    · have h1 : ¬ (j : Int) < (s.size : Int) := by omega
      go_wp2_with fail
      go_quiet (fail)
      go_wp2_with fail
      go_ret
      obtain rfl : s.size = j := by omega
      exact ⟨rfl, HL.out.1.keep (Keep.drewN _ _ _), HL.out.2.2.trans (Keep.drewN _ _ NoB) (fun _ _ h => h) (fun _ _ h => h.elim)⟩
end Go.Proofs.YtjclpmgfcaadmaaGreatDoor
