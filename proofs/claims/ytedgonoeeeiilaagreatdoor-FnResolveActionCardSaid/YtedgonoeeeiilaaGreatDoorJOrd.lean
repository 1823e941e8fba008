/- Bef, Ord: joined. -/
import Derived.Test.YtedgonoeeeiilaaGreatDoorJKey
import Derived.IntWalk
import Derived.BigQuiet
/- The walk of before. -/
namespace Go.Proofs.YtedgonoeeeiilaaGreatDoor
open Go.RowKit

theorem lt_drop {a b : Str} {j : Nat} (ha : j < a.size) (hb : j < b.size) (h : ¬ a.data.toList.drop j < b.data.toList.drop j) :
    (a[j] ≠ b[j] → ¬ a[j] < b[j]) ∧ (a[j] = b[j] → ¬ a.data.toList.drop (j + 1) < b.data.toList.drop (j + 1)) := by
  have e1 : a.data.toList.drop j = a[j] :: a.data.toList.drop (j + 1) := List.drop_eq_getElem_cons (by simpa using ha)
  have e2 : b.data.toList.drop j = b[j] :: b.data.toList.drop (j + 1) := List.drop_eq_getElem_cons (by simpa using hb)
  rw [e1, e2, List.cons_lt_cons_iff] at h
  exact ⟨fun _ h1 => h (.inl h1), fun h1 h2 => h (.inr ⟨h1, h2⟩)⟩

set_option maxRecDepth 100000 in
set_option maxHeartbeats 4000000 in
/-- Where a is not ahead of b, the answer is no. -/
theorem before_c (a b : Str) (h : leS b a) (hz : a.size ≤ 1000000) (w : World) : Calls Tryz.prog 67 #[.string a, .string b] w fun e w' => e = .returned (.bool false) ∧ Keep NoB w w' := by
  have h0 : ¬ a.data.toList.drop 0 < b.data.toList.drop 0 := h
  have H0 := Lib.hid h0
  clear h h0
  go_enter Tryz.func67, Tryz.ntmps67
  go_wp2_with fail
  go_loopg [5] (a.size + 1) (fun g i wr => ∃ j : Nat, j + g = a.size + 1 ∧ i = .int .i64 j ∧ j ≤ a.size ∧ j ≤ b.size ∧ ¬ a.data.toList.drop j < b.data.toList.drop j ∧ Keep NoB w wr)
  case atStart => exact ⟨0, by omega, rfl, by omega, by omega, H0.out, Keep.refl _ _⟩
  case round =>
    obtain ⟨j, hj, rfl, hja, hjb, hd, hk⟩ := hrel
    have HK := Lib.hid (And.intro hk hd)
    clear hk hd
    by_cases ha : j < a.size
    · by_cases hb : j < b.size
      · have h1 : (j : Int) < (a.size : Int) := by omega
        have h2 : (j : Int) < (b.size : Int) := by omega
        obtain ⟨hl1, hl2⟩ := lt_drop ha hb HK.out.2
        by_cases he : a[j] = b[j]
        · have hb1 : ((((a[j]).toNat : Nat) : Int) != (((b[j]).toNat : Nat) : Int)) = false := by rw [he]; simp
          have H2 := Lib.hid (hl2 he)
          clear hl1 hl2 he
          go_upto_region 4 with fail
          go_quiet (fail)
          go_wp2_with fail
          go_roundg (gk - 1)
          case measure => omega
          case rel => exact ⟨j + 1, by omega, by go_num, by omega, by omega, H2.out, HK.out.1.then (Keep.drewN _ _ _)⟩
        · have hlt' : ¬ (a[j]).toNat < (b[j]).toNat := fun h => hl1 he (UInt8.lt_iff_toNat_lt.2 h)
          have hne' : (a[j]).toNat ≠ (b[j]).toNat := fun h => he (UInt8.toNat_inj.1 h)
          have hb1 : ((((a[j]).toNat : Nat) : Int) != (((b[j]).toNat : Nat) : Int)) = true := bne_iff_ne.2 (by omega)
          have hb2 : decide ((((a[j]).toNat : Nat) : Int) < (((b[j]).toNat : Nat) : Int)) = false := decide_eq_false (by omega)
          have HL := Lib.hid hlt'
          clear hl1 hl2 he hlt' hne' hb2
          go_upto_region 4 with fail
          go_quiet (fail)
          go_wp2_with fail
          obtain ⟨w2, hw2⟩ : ∃ w2, w2 = wr.drewN nq := ⟨_, rfl⟩
          have K2 := Lib.hid (show Keep NoB wr w2 from hw2 ▸ Keep.drewN _ _ _)
          rw [← hw2]
          clear hw2
          go_quiet (fail)
          go_wp2_with fail
          go_ret
          exact ⟨congrArg (fun b => Ending.returned (Value.bool b)) (decide_eq_false HL.out), (HK.out.1.then K2.out).then (Keep.drewN _ _ _)⟩
      · have h1 : (j : Int) < (a.size : Int) := by omega
        have h2 : ¬ (j : Int) < (b.size : Int) := by omega
        have h3 : ¬ (a.size : Int) < (b.size : Int) := by omega
        go_wp2_with fail
        go_ret
        exact ⟨rfl, HK.out.1⟩
    · have hja' : j = a.size := by omega
      have h1 : ¬ (j : Int) < (a.size : Int) := by omega
      have h3 : ¬ (a.size : Int) < (b.size : Int) := fun h => by
        refine HK.out.2 ?_
        have e1 : a.data.toList.drop j = [] := List.drop_eq_nil_of_le (by rw [Array.length_toList]; exact Nat.le_of_eq hja'.symm)
        have e3 : b.data.toList.length = b.size := by rw [Array.length_toList]; rfl
        have e2 : j < b.data.toList.length := by omega
        rw [e1, List.drop_eq_getElem_cons e2]
        exact List.nil_lt_cons _ _
      clear hja'
      go_wp2_with fail
      go_ret
      exact ⟨rfl, HK.out.1⟩
end Go.Proofs.YtedgonoeeeiilaaGreatDoor
/- The walk of ordering, where the entries are in order already, each name once. -/
namespace Go.Proofs.YtedgonoeeeiilaaGreatDoor
open Go.RowKit

theorem toList_ne {s t : Str} (h : s ≠ t) : (s.toList == t.toList) = false := by
  rw [Bool.eq_false_iff]; exact fun e => h (toList_beq.1 e)
theorem toList_bne {s t : Str} (h : s ≠ t) : (s.toList != t.toList) = true := by
  unfold bne; rw [toList_ne h]; rfl
/-! ### ordering -/
def pairP (p : Str × Str) : Str := frm p.1 ++ frm p.2
def PairC (_ : World) (_ : Nat → Prop) (x : Str × Str) (cs : List Value) : Prop := cs = [.string x.1, .string x.2]
theorem PairC.keeps : KeepsC PairC := ⟨fun _ _ _ h => h⟩
def pairCells (l : List (Str × Str)) : List Value := l.flatMap fun p => [.string p.1, .string p.2]
theorem pairCells_snoc (l : List (Str × Str)) (p : Str × Str) : pairCells (l ++ [p]) = pairCells l ++ [.string p.1, .string p.2] := by
  unfold pairCells; simp
theorem pairCells_len (l : List (Str × Str)) : (pairCells l).length = l.length * 2 := by
  induction l with
  | nil => rfl
  | cons x l ih => unfold pairCells at *; simp only [List.flatMap_cons, List.length_append, ih, List.length_cons, List.length_nil]; omega
theorem pairCells_at : ∀ (l : List (Str × Str)) (j : Nat) (p : Str × Str), l[j]? = some p → (pairCells l)[j * 2]? = some (.string p.1) ∧ (pairCells l)[j * 2 + 1]? = some (.string p.2)
  | [], j, p, h => by simp at h
  | x :: l, 0, p, h => by
    simp only [List.getElem?_cons_zero, Option.some.injEq] at h
    subst h
    exact ⟨rfl, rfl⟩
  | x :: l, j + 1, p, h => by
    simp only [List.getElem?_cons_succ] at h
    have := pairCells_at l j p h
    have e : pairCells (x :: l) = [.string x.1, .string x.2] ++ pairCells l := rfl
    rw [e, show (j + 1) * 2 = j * 2 + 2 by omega, List.getElem?_append_right (by simp), List.getElem?_append_right (by simp)]
    exact ⟨by simpa using this.1, by simpa [show j * 2 + 2 + 1 - 2 = j * 2 + 1 by omega] using this.2⟩
/-- The cells of a row of the call's own. -/
theorem ownsRow_cell {w : World} {base : Nat} {E : TypeId} {size gg n cap i : Nat} {xs : List Value} {a : Value} (h : w.ownsRow base E size (.slice (some ⟨gg, 0, none⟩) n cap) n xs) (hi : xs[i]? = some a) :
    w.cell? ⟨gg, i, none⟩ = some a ∧ w.frozen? ⟨gg, i, none⟩ = false ∧ (w.setCell ⟨gg, i, none⟩ a).ownsRow base E size (.slice (some ⟨gg, 0, none⟩) n cap) n xs ∧ base ≤ gg := by
  obtain ⟨hl, ⟨h, _⟩ | ⟨g, cap', cur, hv, hb, hh, h1, h2, h3, h4⟩⟩ := h
  · cases h
  · cases hv
    have hc : cur[i]? = some a := by
      rw [← h4, List.getElem?_take] at hi
      split at hi
      · simpa using hi
      · cases hi
    have hs : cur.setIfInBounds i a = cur := by
      apply Array.ext_getElem?
      intro k
      rw [Array.getElem?_setIfInBounds]
      split
      · rename_i e
        subst e
        split
        · exact hc.symm
        · rename_i hn
          rw [Array.getElem?_eq_none (by omega)]
      · rfl
    refine ⟨by rw [cell_cells hh]; exact hc, frozen_cells hh i, ⟨hl, .inr ⟨gg, cap, cur, rfl, hb, ?_, h1, h2, h3, h4⟩⟩, hb⟩
    rw [setCell_cells hh, hs]
theorem infoEntry : (Tryz.prog.info? 177).map (fun i => (i.zero, i.size, i.bytes)) = some (some (.agg #[.string ⟨#[]⟩, .string ⟨#[]⟩]), 2, 32) := by kernel_rfl
theorem pw_le {l : List (Str × Str)} (hs : (l.map (·.1)).Pairwise leS) (hn : (l.map (·.1)).Nodup) {i j : Nat} {p q : Str × Str} (hi : l[i]? = some p) (hj : l[j]? = some q) (hij : i < j) : leS p.1 q.1 ∧ q.1 ≠ p.1 := by
  have h1 : (l.map (·.1))[i]? = some p.1 := by rw [List.getElem?_map, hi]; rfl
  have h2 : (l.map (·.1))[j]? = some q.1 := by rw [List.getElem?_map, hj]; rfl
  obtain ⟨a1, b1⟩ := List.getElem?_eq_some_iff.1 h1
  obtain ⟨a2, b2⟩ := List.getElem?_eq_some_iff.1 h2
  refine ⟨b1 ▸ b2 ▸ List.pairwise_iff_getElem.1 hs i j a1 a2 hij, fun e => ?_⟩
  have := (List.pairwise_iff_getElem.1 hn) i j a1 a2 hij
  rw [b1, b2] at this
  exact this e.symm

set_option maxRecDepth 100000 in
set_option maxHeartbeats 16000000 in
theorem ordering_c (w0 : World) (M : Nat → Prop) (l : List (Str × Str)) (so : Option Addr) (sl sc : Nat) (h : RowAt PairC 2 w0 M l (so, sl, sc)) (hs : (l.map (·.1)).Pairwise leS) (hnd : (l.map (·.1)).Nodup)
    (hL : l.length ≤ 1000000) (hB : (catF pairP l).size ≤ 400000) (w : World) (k0 : Keep NoB w0 w) :
    Calls Tryz.prog 47 #[.slice so sl sc] w fun e w' => e = .returned (.string (catF pairP l)) ∧ Keep NoB w w' := by
  obtain ⟨hn, hc⟩ := h
  replace hn : sl = l.length := hn
  rw [← hn] at hL
  obtain ⟨iU, hiU, hzU, hsU, hbU⟩ := info_parts infoEntry
  have HU := Lib.hid (And.intro hiU (And.intro hzU (And.intro hsU hbU)))
  have HA := Lib.hid (And.intro hn (And.intro hc (And.intro hs (And.intro hnd (And.intro hB k0)))))
  clear hn hc hs hnd hB k0 hiU hzU hsU hbU
  go_enter Tryz.func47, Tryz.ntmps47
  go_wp2_with fail
  go_loopg [3, 4] sl (fun g s i wr => ∃ j : Nat, j + g = sl ∧ i = .int .i64 j ∧ (∃ o c, s = .slice o j c) ∧ wr.ownsRow w.heap.size 177 2 s j (pairCells (l.take j)) ∧ Keep NoB w wr)
  case atStart => exact ⟨0, by omega, rfl, ⟨none, 0, rfl⟩, World.ownsRow_nil _ _ _ _, Keep.refl _ _⟩
  case round =>
    obtain ⟨j, hj, rfl, ⟨oo, oc, rfl⟩, hown, hk⟩ := hrel
    have HK := Lib.hid (And.intro hown hk)
    clear hown hk
    by_cases hlt : j < sl
    · obtain ⟨hn, hc, hs, hnd, hB, k0⟩ := HA.out
      rcases hc with h0 | ⟨bv, offv, hso, hMv, hcell⟩
      · subst h0
        exact absurd hlt (by rw [hn]; simp)
      replace hso : so = some ⟨bv, offv, none⟩ := hso
      subst hso
      obtain ⟨p, hp⟩ : ∃ p, l[j]? = some p := ⟨_, List.getElem?_eq_getElem (by omega)⟩
      have HC := Lib.hid (show ∀ q r, l[q]? = some r → ∀ x, Keep NoB w x → x.cell? ⟨bv, offv + q * 2, none⟩ = some (.string r.1) ∧ x.cell? ⟨bv, offv + q * 2 + 1, none⟩ = some (.string r.2) from fun q r hr x kx => by
        obtain ⟨cs, _, hcs, rfl⟩ := hcell q r hr
        have hc := hcs.keep (k0.then kx) (NoB.not _)
        exact ⟨hc 0 _ rfl, hc 1 _ rfl⟩)
      obtain ⟨nj, hnj⟩ : ∃ nj, nj = p.1 := ⟨_, rfl⟩
      obtain ⟨kj, hkj⟩ : ∃ kj, kj = p.2 := ⟨_, rfl⟩
      have HP := Lib.hid (And.intro hp (And.intro hnj hkj))
      have HJ := Lib.hid (show ∀ x, Keep NoB w x → x.cell? ⟨bv, offv + j * 2, none⟩ = some (.string nj) ∧ x.cell? ⟨bv, offv + j * 2 + 1, none⟩ = some (.string kj) from fun x kx => by rw [hnj, hkj]; exact HC.out j p hp x kx)
      clear hn hs hnd hB k0 hMv hcell hp hnj hkj
      go_wp2_with fail
      go_loopg [5, 6] (sl - (j + 1)) (fun g s i wx => ∃ q : Nat, q + g = sl ∧ j + 1 ≤ q ∧ i = .int .i64 q ∧ s = .bool true ∧ Keep NoB wr wx)
      case atStart => exact ⟨j + 1, by omega, by omega, by go_num, rfl, Keep.refl _ _⟩
      case round =>
        obtain ⟨q, hq, hjq, rfl, rfl, hkx⟩ := hrel
        have HX := Lib.hid hkx
        clear hkx
        by_cases hqt : q < sl
        · obtain ⟨r, hr⟩ : ∃ r, l[q]? = some r := ⟨_, List.getElem?_eq_getElem (by have := HA.out.1; omega)⟩
          obtain ⟨q0, _⟩ := HC.out q r hr _ (HK.out.2.then HX.out)
          obtain ⟨q1, _⟩ := HJ.out _ (HK.out.2.then HX.out)
          have hne : r.1 ≠ nj := by rw [HP.out.2.1]; exact (pw_le HA.out.2.2.1 HA.out.2.2.2.1 HP.out.1 hr (by omega)).2
          obtain ⟨nq, hnq⟩ : ∃ nq, nq = r.1 := ⟨_, rfl⟩
          rw [← hnq] at q0 hne
          have t1 := toList_ne hne
          have t2 : (nq.toList != nj.toList) = true := by unfold bne; rw [t1]; rfl
          clear hr hnq hne
          go_upto_region 9 with fail
          go_quiet (fail)
          go_wp2_with fail
          go_roundg (gk - 1)
          case measure => omega
          case rel => exact ⟨q + 1, by omega, by omega, by go_num, rfl, HX.out.then (Keep.drewN _ _ _)⟩
        · have hqs : q = sl := by omega
          subst hqs
          obtain ⟨q0, q1⟩ := HJ.out _ (HK.out.2.then HX.out)
          have hjl : j < l.length := by have := HA.out.1; omega
          have hownx := HK.out.1.keep HX.out (fun _ _ => NoB.not _)
          go_wp2_with (at_builtin
                       refine wpList_append_lies _ rfl _ _ 175 rfl w.heap.size 177 iU _ 2 32 Tryz.underlying175 HU.out.1 HU.out.2.1 HU.out.2.2.1 HU.out.2.2.2 rfl (by omega) (.slice oo j oc) j (pairCells (l.take j)) rfl (hownx.alloc _) ⟨wr.heap.size, 0, none⟩ 1 1 [.string nj, .string kj] rfl rfl
                         (World.news_of_block (cs := #[.string nj, .string kj]) (t := 177) (fr := (0, 0)) (heap_alloc_new wr _)) (by simp [Value.oneCell']) (by omega) (by unfold maxLen; omega) (by omega) ?c5 (wr.heap.size + 1) (by simp) ?_
                       case c5 =>
                         have h1 := (HK.out.2.then HX.out).size
                         rw [World.size_alloc]; omega
                       intro gg cap w8 hown8 hgrow hgat hglt
                       have kk : Keep NoB w w8 := ((HK.out.2.then HX.out).then (Keep.alloc _ _ NoB)).trans (Keep.grown hgrow (M := fun i => w.heap.size ≤ i) (fun i hi _ => (World.ownsRow.lt hownx i hi).1)) (fun _ _ h => h) (fun i hi h => by omega)
                       have HX8 := Lib.hid (And.intro hown8 kk)
                       clear hown8 hgrow hgat hglt kk)
          have hP1 : pairCells (l.take j) ++ [.string nj, .string kj] = pairCells (l.take (j + 1)) := by
            obtain ⟨_, hpe⟩ := List.getElem?_eq_some_iff.1 HP.out.1
            rw [List.take_succ_eq_append_getElem hjl, pairCells_snoc, hpe, HP.out.2.1, HP.out.2.2]
          have hat := pairCells_at (l.take (j + 1)) j p (by rw [List.getElem?_take, if_pos (by omega)]; exact HP.out.1)
          rw [← HP.out.2.1, ← HP.out.2.2] at hat
          have HO := Lib.hid (show w8.ownsRow w.heap.size 177 2 (.slice (some ⟨gg, 0, none⟩) (j + 1) cap) (j + 1) (pairCells (l.take (j + 1))) from hP1 ▸ HX8.out.1)
          have HAT := Lib.hid hat
          obtain ⟨d0, d1⟩ := HJ.out _ HX8.out.2
          clear hP1 hat hownx q0 q1
          refine wp_loop_rounds 1 ?_
          rw [rounds_succ]
          by_cases hj0 : j = 0
          · have hg : decide (0 < j) = false := decide_eq_false (by omega)
            clear hj0
            go_upto_region 13 with fail
            go_quiet (fail)
            obtain ⟨w9, hw9⟩ : ∃ w9, w9 = w8.drewN nq := ⟨_, rfl⟩
            have k9 : Keep NoB w8 w9 := hw9 ▸ Keep.drewN _ _ _
            rw [← hw9]
            clear hw9 d0 d1
            obtain ⟨d0, d1⟩ := HJ.out _ (HX8.out.2.then k9)
            obtain ⟨c0, f0, hown9, hge⟩ := ownsRow_cell (i := j * 2) (HO.out.keep k9 (fun _ _ => NoB.not _)) HAT.out.1
            obtain ⟨c1, f1, hown10, _⟩ := ownsRow_cell (i := j * 2 + 1) hown9 HAT.out.2
            obtain ⟨c2, f2, _, _⟩ := ownsRow_cell (i := j * 2 + 1) (HO.out.keep k9 (fun _ _ => NoB.not _)) HAT.out.2
            have kst : Keep NoB w ((w9.setCell ⟨gg, j * 2, none⟩ (.string nj)).setCell ⟨gg, j * 2 + 1, none⟩ (.string kj)) :=
              ((HX8.out.2.then k9).trans ((Keep.setCell (M := (· = gg)) w9 ⟨gg, j * 2, none⟩ (.string nj) (fun _ => rfl)).trans (Keep.setCell (M := (· = gg)) _ ⟨gg, j * 2 + 1, none⟩ (.string kj) (fun _ => rfl)) (fun _ _ h => h) (fun _ _ h => h)) (fun _ _ h => h) (fun i hi h => by have : i = gg := h; omega))
            have HF := Lib.hid (And.intro hown10 kst)
            clear k9 hown9 hge hown10 kst c1 f1
            go_wp2_with fail
            go_roundg (q - (j + 1))
            case measure => omega
            case rel => exact ⟨j + 1, by omega, by go_num, ⟨_, _, rfl⟩, HF.out.1, HF.out.2⟩
          · obtain ⟨i', hi'⟩ : ∃ i', j = i' + 1 := ⟨j - 1, by omega⟩
            have hg : decide (0 < j) = true := decide_eq_true (by omega)
            obtain ⟨r, hr⟩ : ∃ r, l[i']? = some r := ⟨_, List.getElem?_eq_getElem (by omega)⟩
            have hle : leS r.1 nj := by rw [HP.out.2.1]; exact (pw_le HA.out.2.2.1 HA.out.2.2.2.1 hr HP.out.1 (by omega)).1
            have hat2 := (pairCells_at (l.take (j + 1)) i' r (by rw [List.getElem?_take, if_pos (by omega)]; exact hr)).1
            obtain ⟨e0, _, _, _⟩ := ownsRow_cell (i := i' * 2) HO.out hat2
            have hnz : nj.size ≤ 1000000 := by
              have h1 := catF_mem pairP l j p HP.out.1
              have h2 := HA.out.2.2.2.2.1
              have h3 := frm_ge p.1
              unfold pairP at h1
              rw [ByteArray.size_append] at h1
              rw [HP.out.2.1]
              have h4 : (catF pairP l).size ≤ 400000 := h2
              have h5 : (frm p.1).size + (frm p.2).size ≤ (catF pairP l).size := h1
              omega
            have HB := Lib.hid (fun x => before_c nj r.1 hle hnz x)
            obtain ⟨nr, hnr⟩ : ∃ nr, nr = r.1 := ⟨_, rfl⟩
            rw [← hnr] at e0 HB
            have w1 : IntKind.i64.wrap ((j : Int) - 1) = (i' : Int) := by rw [IntWalk.i64_in _ (by omega)]; omega
            have w2 : (0 : Int) ≤ (i' : Int) := by omega
            have w3 : (i' : Int) < (j : Int) + 1 := by omega
            clear hj0 hi' hr hle hat2 hnr hnz
            go_upto_region 13 with fail
            have hK0 : Keep NoB w8 w8.drew := Keep.drew _ _
            have HR := Lib.hid (show ∀ x, Keep NoB w8 x → x.cell? ⟨gg, i' * 2, none⟩ = some (.string nr) ∧ x.cell? ⟨bv, offv + j * 2, none⟩ = some (.string nj) from fun x kx => ⟨kx.cell e0 (NoB.not _), kx.cell d0 (NoB.not _)⟩)
            have hq := HR.out _ hK0
            obtain ⟨g0, g1⟩ := hq
            go_region_held3 (fun x => Keep NoB w8 x ∧ x.cell? ⟨gg, i' * 2, none⟩ = some (.string nr) ∧ x.cell? ⟨bv, offv + j * 2, none⟩ = some (.string nj))
              (with_reducible (first
                | exact ⟨kwA, HR.out _ kwA⟩
                | exact ⟨hK0, HR.out _ hK0⟩
                | assumption))
              ((go_at_call 67
                refine (HB.out _).mono ?_
                rintro e w4 ⟨rfl, k4⟩
                have kwA : Keep NoB w8 w4 := Keep.then (by go_split_ands; assumption) k4))
            have k9 := kwA
            obtain ⟨d0, d1⟩ := HJ.out _ (HX8.out.2.then k9)
            obtain ⟨c0, f0, hown9, hge⟩ := ownsRow_cell (i := j * 2) (HO.out.keep k9 (fun _ _ => NoB.not _)) HAT.out.1
            obtain ⟨c1, f1, hown10, _⟩ := ownsRow_cell (i := j * 2 + 1) hown9 HAT.out.2
            obtain ⟨c2, f2, _, _⟩ := ownsRow_cell (i := j * 2 + 1) (HO.out.keep k9 (fun _ _ => NoB.not _)) HAT.out.2
            have kst : Keep NoB w ((w4.setCell ⟨gg, j * 2, none⟩ (.string nj)).setCell ⟨gg, j * 2 + 1, none⟩ (.string kj)) :=
              ((HX8.out.2.then k9).trans ((Keep.setCell (M := (· = gg)) w4 ⟨gg, j * 2, none⟩ (.string nj) (fun _ => rfl)).trans (Keep.setCell (M := (· = gg)) _ ⟨gg, j * 2 + 1, none⟩ (.string kj) (fun _ => rfl)) (fun _ _ h => h) (fun _ _ h => h)) (fun _ _ h => h) (fun i hi h => by have : i = gg := h; omega))
            have HF := Lib.hid (And.intro hown10 kst)
            clear k9 hown9 hge hown10 kst c1 f1 kwA k4 hK0 g0 g1 e0 w1 w2 w3
            go_wp2_with fail
            go_roundg (q - (j + 1))
            case measure => omega
            case rel => exact ⟨j + 1, by omega, by go_num, ⟨_, _, rfl⟩, HF.out.1, HF.out.2⟩
    · have hjm : j = sl := by omega
      subst hjm
      have hown : wr.ownsRow w.heap.size 177 2 (.slice oo j oc) j (pairCells l) := by
        have h1 := HK.out.1
        have e : l.take j = l := List.take_of_length_le (by have := HA.out.1; omega)
        rw [e] at h1
        exact h1
      have HO := Lib.hid hown
      clear hown
      go_wp2_with fail
      go_loopg [8, 9] j (fun g s i wx => ∃ q : Nat, q + g = j ∧ i = .int .i64 q ∧ s = .string (catF pairP (l.take q)) ∧ Keep NoB w wx ∧ wx.ownsRow w.heap.size 177 2 (.slice oo j oc) j (pairCells l))
      case atStart => exact ⟨0, by omega, rfl, rfl, HK.out.2, HO.out⟩
      case round =>
        obtain ⟨q, hq, rfl, rfl, hkx, hox⟩ := hrel
        have HX := Lib.hid (And.intro hkx hox)
        clear hkx hox
        have hcs : (catF pairP (l.take q)).size ≤ 400000 := Nat.le_trans (catF_take _ l q) HA.out.2.2.2.2.1
        obtain ⟨S, hS⟩ : ∃ S, S = catF pairP (l.take q) := ⟨_, rfl⟩
        rw [← hS] at hcs ⊢
        have HS := Lib.hid hS
        clear hS
        by_cases hqt : q < j
        · obtain ⟨gg, rfl⟩ : ∃ gg, oo = some ⟨gg, 0, none⟩ := by
            rcases HX.out.2.2 with ⟨_, h0⟩ | ⟨g, c, cur, hv, _⟩
            · omega
            · cases hv; exact ⟨g, rfl⟩
          obtain ⟨r, hr⟩ : ∃ r, l[q]? = some r := ⟨_, List.getElem?_eq_getElem (by have := HA.out.1; omega)⟩
          have hat := pairCells_at l q r hr
          have hsz := Nat.le_trans (catF_mem pairP l q r hr) HA.out.2.2.2.2.1
          unfold pairP at hsz
          rw [ByteArray.size_append] at hsz
          have hg1 := frm_ge r.1
          have hg2 := frm_ge r.2
          obtain ⟨nj, hnj⟩ : ∃ nj, nj = r.1 := ⟨_, rfl⟩
          obtain ⟨kj, hkj⟩ : ∃ kj, kj = r.2 := ⟨_, rfl⟩
          rw [← hnj, ← hkj] at hat
          rw [← hnj] at hsz hg1
          rw [← hkj] at hsz hg2
          have hbnd : nj.size ≤ 400000 ∧ kj.size ≤ 400000 := ⟨by omega, by omega⟩
          have hfb : (frm nj).size + (frm kj).size ≤ 400000 := hsz
          have HQ := Lib.hid (show ∀ x, Keep NoB wr x → x.cell? ⟨gg, q * 2, none⟩ = some (.string nj) ∧ x.cell? ⟨gg, q * 2 + 1, none⟩ = some (.string kj) from fun x kx =>
            ⟨(ownsRow_cell (HX.out.2.keep kx (fun _ _ => NoB.not _)) hat.1).1, (ownsRow_cell (HX.out.2.keep kx (fun _ _ => NoB.not _)) hat.2).1⟩)
          have HP := Lib.hid (And.intro hr (And.intro hnj hkj))
          have hs1 : ¬ 9223372036854775807 < (frm nj).size + (frm kj).size := by omega
          have hs2 : ¬ 9223372036854775807 < S.size + ((frm nj).size + (frm kj).size) := by omega
          clear hr hat hsz hg1 hg2 hnj hkj
          go_upto_region 21 with fail
          have hK0 : Keep NoB wr wr.drew := Keep.drew _ _
          obtain ⟨q0, q1⟩ := HQ.out _ hK0
          go_region_held3 (fun x => Keep NoB wr x ∧ x.cell? ⟨gg, q * 2, none⟩ = some (.string nj) ∧ x.cell? ⟨gg, q * 2 + 1, none⟩ = some (.string kj))
            (with_reducible (first
              | exact ⟨kwA, HQ.out _ kwA⟩
              | exact ⟨hK0, HQ.out _ hK0⟩
              | assumption))
            ((go_at_call 25
              refine (framed_c _ (by omega) _).mono ?_
              rintro e w4 ⟨rfl, k4⟩
              have kwA : Keep NoB wr w4 := Keep.then (by go_split_ands; assumption) k4))
          all_goals
            have KA := Lib.hid kwA
            clear kwA k4 hK0 q0 q1 hs1 hs2
            go_wp2_with fail
            go_roundg (gk - 1)
            case measure => omega
            case rel =>
              refine ⟨q + 1, by omega, by go_num, ?_, HX.out.1.then KA.out, HX.out.2.keep KA.out (fun _ _ => NoB.not _)⟩
              obtain ⟨hp, hnj, hkj⟩ := HP.out
              obtain ⟨hjl, rfl⟩ := List.getElem?_eq_some_iff.1 hp
              rw [List.take_succ_eq_append_getElem hjl, catF_snoc, HS.out, hnj, hkj]
              rfl
        · have hqj : q = j := by omega
          have HSE := Lib.hid (show S = catF pairP l by rw [HS.out, hqj, HA.out.1, List.take_length])
          subst hqj
          go_wp2_with fail
          go_ret
          exact ⟨by rw [HSE.out]; rfl, HX.out.1⟩
end Go.Proofs.YtedgonoeeeiilaaGreatDoor
