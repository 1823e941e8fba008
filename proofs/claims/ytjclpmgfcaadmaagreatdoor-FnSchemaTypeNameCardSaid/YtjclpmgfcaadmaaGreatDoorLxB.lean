/- The schema's lexer reads an identifier. -/
import Derived.Test.YtjclpmgfcaadmaaGreatDoorLxA
import Derived.Test.YtjclpmgfcaadmaaGreatDoorLxI
import Derived.Laws.BytesArg
namespace Go.Proofs.YtjclpmgfcaadmaaGreatDoor
open Go.RowKit Go.Shelf

theorem conv_src {x : World} {bb p q c : Nat} {s : ByteArray} (hpq : p ≤ q) (hq : q ≤ s.size) (h : ∀ j, j < s.size → x.cell? ⟨bb, j, none⟩ = some (.int .u8 (at8 s j))) :
    (convert 50 9 (.slice (some ⟨bb, p, none⟩) (q - p) c)).run Tryz.prog x = .ok (.string (s.extract p q)) x := by
  have hlen : (s.extract p q).data.toList.length = q - p := by
    simp only [ByteArray.data_extract, Array.toList_extract, List.extract_eq_take_drop, List.length_take, List.length_drop]
    have : s.data.toList.length = s.size := by simp
    omega
  have hj : ∀ j (hj : j < (s.extract p q).data.toList.length), x.cell? ((⟨bb, p, none⟩ : Addr).add j) = some (.int .u8 (((s.extract p q).data.toList[j]).toNat : Int)) := by
    intro j hj
    rw [hlen] at hj
    rw [WideShapes.add_plain, h (p + j) (by omega), ← at8_get (show p + j < s.size by omega)]
    have e : (s.extract p q).data.toList[j]'(by rw [hlen]; exact hj) = s[p + j]'(by omega) := by
      simp only [ByteArray.data_extract, Array.toList_extract, List.extract_eq_take_drop, List.getElem_take, List.getElem_drop]
      rfl
    rw [e]
  have h1 := run_convert_bytes_back (P := Tryz.prog) x 50 9 5 ⟨bb, p, none⟩ c (s.extract p q).data.toList Tryz.underlying50 Tryz.underlying5 Tryz.underlying9 hj
  rw [hlen] at h1
  exact h1

set_option maxRecDepth 100000 in
set_option maxHeartbeats 8000000 in
theorem scanIdent_c {w : World} {B : Nat} {o : Option Addr} {bb cap : Nat} {s : ByteArray} {p q : Nat} (hT : ∀ x, Keep (· = B) w x → Tabs x) (h : LexIs w B o bb cap s p) (hi : Idn s p q) (hs : s.size ≤ 3000) :
    Calls Tryz.prog 88 #[.pointer (some ⟨B, 0, none⟩)] w fun e w' => e = .returned (.string (s.extract p q)) ∧ LexIs w' B o bb cap s q ∧ Keep (· = B) w w' := by
  have hps : p < s.size := by have := hi.lt; have := hi.le; omega
  have HA := Lib.hid (advance_c (hT w (Keep.refl _ _)) h hps hs)
  have hr := rune_ascii (s := s) (k := p) (isStart_lt hi.first)
  have HR := Lib.hid hr
  obtain ⟨l, c, f, hbk⟩ := h.blk
  obtain ⟨e0, e1, _⟩ := lexCells hbk
  have HT := Lib.hid hT
  have H0 := Lib.hid (And.intro h hi)
  clear hT h hi hr hbk
  go_enter Tryz.func88, Tryz.ntmps88
  go_wp2_with fail
  refine HA.out.mono ?_
  rintro e w1 ⟨rfl, hl1, k1⟩
  rw [HR.out.2] at hl1
  have H1 := Lib.hid (And.intro hl1 k1)
  clear hl1 k1 e0 e1
  go_wp2_with fail
  go_loopg [] (q - (p + 1)) (fun g wr => ∃ j : Nat, p + 1 ≤ j ∧ j + g = q ∧ LexIs wr B o bb cap s j ∧ Keep (· = B) w wr)
  case atStart => exact ⟨p + 1, by omega, by have := H0.out.2.lt; omega, H1.out.1, H1.out.2⟩
  case round =>
    obtain ⟨j, hpj, hj, hl, hk⟩ := hrel
    obtain ⟨l2, c2, f2, hbk2⟩ := hl.blk
    obtain ⟨e0, e1, _⟩ := lexCells hbk2
    have HM := Lib.hid (And.intro hl hk)
    have HQ := Lib.hid (show ∀ x, Keep NoB wr x → x.cell? ⟨B, 0, none⟩ = some (.slice o s.size cap) ∧ x.cell? ⟨B, 1, none⟩ = some (.int .i64 j) from fun x k => ⟨k.cell e0 (fun h => h), k.cell e1 (fun h => h)⟩)
    clear hl hk hbk2
    by_cases hjt : j < s.size
    · have h3 : (j : Int) < (s.size : Int) := by omega
      obtain ⟨R, hR⟩ : ∃ R, R = runeAt s j := ⟨_, rfl⟩
      have HP := Lib.hid (show ∀ x, Keep NoB wr x → Calls Tryz.prog 86 #[.pointer (some ⟨B, 0, none⟩)] x fun e w' => e = .returned (.int .i32 R) ∧ Keep NoB x w' from fun x k => by
        rw [hR]
        exact peek_c (HT.out _ (HM.out.2.trans k (fun _ _ h => h) (fun _ _ h => h.elim))) (HM.out.1.keep k) hjt hs)
      obtain ⟨b, hb⟩ : ∃ b, b = isCont R := ⟨_, rfl⟩
      have HCt := Lib.hid (show ∀ x, Calls Tryz.prog 127 #[.int .i32 R] x fun e w' => e = .returned (.bool b) ∧ w' = x from fun x => hb ▸ isCont_c R x)
      have HR2 := Lib.hid (And.intro hR hb)
      clear hR hb e0 e1
      have hK0 : Keep NoB wr wr.drew := Keep.drew _ _
      obtain ⟨d0, d1⟩ := HQ.out _ hK0
      go_upto_region 3 with fail
      go_region_held3 (fun x => x.cell? ⟨B, 0, none⟩ = some (.slice o s.size cap) ∧ x.cell? ⟨B, 1, none⟩ = some (.int .i64 j))
        (with_reducible (first | assumption | exact HQ.out _ kwA | exact HQ.out _ hK0))
        ((first
          | (go_at_call 86
             refine (HP.out _ hK0).mono ?_
             rintro e w6 ⟨rfl, k6⟩
             have kwA : Keep NoB wr w6 := hK0.then k6)
          | (go_at_call 127
             refine (HCt.out _).mono ?_
             rintro e w8 ⟨rfl, rfl⟩)))
      have H6 := Lib.hid (And.intro (HM.out.1.keep kwA) (HM.out.2.trans kwA (M'' := (· = B)) (fun _ _ h => h) (fun _ _ h => h.elim)))
      clear kwA k6 d0 d1 hK0 HQ HP HCt
      cases b
      · obtain rfl : j = q := by
          rcases Nat.lt_or_ge j q with h | h
          · have h1 := H0.out.2.all j (by omega) h
            rw [← (rune_ascii (s := s) (k := j) (isCont_lt h1)).1, ← HR2.out.1, ← HR2.out.2] at h1
            cases h1
          · omega
        rcases H6.out.1.src with h0 | ⟨rfl, hne, hsj⟩
        · omega
        have hcv : ∀ y, y.heap = w8.heap → (convert 50 9 (.slice (some ⟨bb, p, none⟩) (j - p) (cap - p))).run Tryz.prog y = .ok (.string (s.extract p j)) y := fun y hy => conv_src (by omega) (by omega) (fun i hi => by rw [show y.cell? ⟨bb, i, none⟩ = w8.cell? ⟨bb, i, none⟩ by simp [World.cell?, hy]]; exact hsj i hi)
        have hcv1 : ∀ n, (convert 50 9 (.slice (some ⟨bb, p, none⟩) (j - p) (cap - p))).run Tryz.prog (w8.drewN n) = .ok (.string (s.extract p j)) (w8.drewN n) := fun n => hcv _ rfl
        have hcap := H6.out.1.cap
        obtain ⟨l3, c3, f3, hbk3⟩ := H6.out.1.blk
        obtain ⟨e0, e1, _⟩ := lexCells hbk3
        have h6 : ¬ cap = p := by omega
        have h7 : (p : Int) ≤ (j : Int) := by omega
        have h8 : (j : Int) ≤ (cap : Int) := by omega
        have h9 : p ≤ j := by omega
        have h10 : j ≤ cap := by omega
        clear hbk3 hsj hne hcv
        go_wp2_with fail
        go_quiet (fail)
        go_wp2_with fail
        go_ret
        exact ⟨rfl, H6.out.1.keep (Keep.drewN _ _ _), H6.out.2.then (Keep.drewN _ _ NoB)⟩
      · go_wp2_with fail
        have hjq : j < q := by
          rcases Nat.lt_or_ge j q with h | h
          · exact h
          · obtain rfl : j = q := by omega
            have h1 := H0.out.2.over hjt
            rw [← HR2.out.1, ← HR2.out.2] at h1
            cases h1
        refine (advance_c (HT.out _ H6.out.2) H6.out.1 hjt hs).mono ?_
        rintro e w7 ⟨rfl, hl7, k7⟩
        rw [(rune_ascii (s := s) (k := j) (isCont_lt (H0.out.2.all j (by omega) hjq))).2] at hl7
        have H7 := Lib.hid (And.intro hl7 k7)
        clear hl7 k7
        go_wp2_with fail
        go_roundg (gk - 1)
        case measure => omega
        case rel => exact ⟨j + 1, by omega, by omega, H7.out.1, H6.out.2.trans H7.out.2 (fun _ _ h => h) (fun _ _ h => h)⟩
    · have hjq : j = q := by have := H0.out.2.le; omega
      have hjs : j ≤ s.size := by have := H0.out.2.le; omega
      obtain rfl := hjq
      have h3 : ¬ (j : Int) < (s.size : Int) := by omega
      go_wp2_with fail
      go_quiet (fail)
      go_wp2_with fail
      obtain ⟨w8, hw8⟩ : ∃ x, x = wr.drewN nq := ⟨_, rfl⟩
      have kwA : Keep NoB wr w8 := hw8 ▸ Keep.drewN _ _ _
      rw [← hw8]
      have H6 := Lib.hid (And.intro (HM.out.1.keep kwA) (HM.out.2.trans kwA (M'' := (· = B)) (fun _ _ h => h) (fun _ _ h => h.elim)))
      clear kwA e0 e1 HQ hw8
      focus
        rcases H6.out.1.src with h0 | ⟨rfl, hne, hsj⟩
        · omega
        have hcv : ∀ y, y.heap = w8.heap → (convert 50 9 (.slice (some ⟨bb, p, none⟩) (j - p) (cap - p))).run Tryz.prog y = .ok (.string (s.extract p j)) y := fun y hy => conv_src (by omega) (by omega) (fun i hi => by rw [show y.cell? ⟨bb, i, none⟩ = w8.cell? ⟨bb, i, none⟩ by simp [World.cell?, hy]]; exact hsj i hi)
        have hcv1 : ∀ n, (convert 50 9 (.slice (some ⟨bb, p, none⟩) (j - p) (cap - p))).run Tryz.prog (w8.drewN n) = .ok (.string (s.extract p j)) (w8.drewN n) := fun n => hcv _ rfl
        have hcap := H6.out.1.cap
        obtain ⟨l3, c3, f3, hbk3⟩ := H6.out.1.blk
        obtain ⟨e0, e1, _⟩ := lexCells hbk3
        have h6 : ¬ cap = p := by omega
        have h7 : (p : Int) ≤ (j : Int) := by omega
        have h8 : (j : Int) ≤ (cap : Int) := by omega
        have h9 : p ≤ j := by omega
        have h10 : j ≤ cap := by omega
        clear hbk3 hsj hne hcv
        go_wp2_with fail
        go_quiet (fail)
        go_wp2_with fail
        go_ret
        exact ⟨rfl, H6.out.1.keep (Keep.drewN _ _ _), H6.out.2.then (Keep.drewN _ _ NoB)⟩
end Go.Proofs.YtjclpmgfcaadmaaGreatDoor
