/- The walk of attrsKey on attributes of types without records, in order, each name once. -/
import Derived.Test.YthhjehajdcgkhaaGreatDoorOrd
import Derived.Test.YthhjehajdcgkhaaGreatDoorTk
namespace Go.Proofs.YthhjehajdcgkhaaGreatDoor
open Go.RowKit

def markS (q : Bool) : Str := if q then ⟨#[63]⟩ else ⟨#[33]⟩
def attrP (x : Str × ATy × Bool) : Str × Str := (x.1, markS x.2.2 ++ tKey x.2.1)
def aKey (l : List (Str × ATy × Bool)) : Str := catF pairP (l.map attrP)
theorem attrP_fst (l : List (Str × ATy × Bool)) : (l.map attrP).map (·.1) = l.map (·.1) := by
  rw [List.map_map]; rfl
theorem markS_size (q : Bool) : (markS q).size = 1 := by cases q <;> rfl

set_option maxRecDepth 100000 in
set_option maxHeartbeats 16000000 in
theorem attrsKey_c (w0 : World) (M : Nat → Prop) (l : List (Str × ATy × Bool)) (ao : Option Addr) (n c : Nat) (kf : Nat → Int) (sf : Nat → Str) (ef af : Nat → Sl) (hn : n = l.length)
    (hc : l = [] ∨ ∃ b off, ao = some ⟨b, off, none⟩ ∧ ¬ M b ∧ ∀ i k t q, l[i]? = some (k, t, q) → CellsAt w0 b (off + i * 6) [.string k, .bool q, .int .i64 (kf i), .string (sf i), slV (ef i), slV (af i)])
    (ht : ∀ i k t q, l[i]? = some (k, t, q) → OTyIs w0 M t (tyV (kf i) (sf i) (ef i) (af i))) (hf : ∀ x ∈ l, Flat x.2.1) (hs : (l.map (·.1)).Pairwise leS) (hnd : (l.map (·.1)).Nodup)
    (hL : l.length ≤ 1000000) (hB : (aKey l).size ≤ 300000) (w : World) (k0 : Keep NoB w0 w) :
    Calls Tryz.prog 34 #[.slice ao n c] w fun e w' => e = .returned (.string (aKey l)) ∧ Keep NoB w w' := by
  rw [← hn] at hL
  obtain ⟨iU, hiU, hzU, hsU, hbU⟩ := info_parts infoEntry
  have HU := Lib.hid (And.intro hiU (And.intro hzU (And.intro hsU hbU)))
  have HA := Lib.hid (And.intro hn (And.intro hc (And.intro ht (And.intro hf (And.intro hs (And.intro hnd (And.intro hB k0)))))))
  clear hn hc ht hf hs hnd hB k0 hiU hzU hsU hbU
  go_enter Tryz.func34, Tryz.ntmps34
  go_wp2_with fail
  go_loopg [3, 4] n (fun g s i wr => ∃ j : Nat, j + g = n ∧ i = .int .i64 j ∧ RowIs PairC wr w.heap.size 178 2 s ((l.map attrP).take j) ∧ Keep NoB w wr)
  case atStart => exact ⟨0, by omega, rfl, RowIs.nil _ _ _ _ _, Keep.refl _ _⟩
  case round =>
    obtain ⟨j, hj, rfl, hrow, hk⟩ := hrel
    have hlen : ((l.map attrP).take j).length = j := by rw [List.length_take, List.length_map]; have := HA.out.1; omega
    obtain ⟨oo, oc, hsh⟩ := hrow.shape
    rw [hlen] at hsh
    subst hsh
    have HK := Lib.hid (And.intro hrow (And.intro hk hlen))
    clear hrow hk hlen
    by_cases hlt : j < n
    · obtain ⟨hn, hc, ht, hf, hs, hnd, hB, k0⟩ := HA.out
      rcases hc with h0 | ⟨bv, offv, hso, hMv, hcell⟩
      · subst h0
        exact absurd hlt (by rw [hn]; simp)
      subst hso
      have hjl : j < l.length := by omega
      obtain ⟨kj, tj, qj, hp⟩ : ∃ k t q, l[j]? = some (k, t, q) := ⟨_, _, _, List.getElem?_eq_getElem hjl⟩
      have hcs := hcell j kj tj qj hp
      have hty := ht j kj tj qj hp
      have hmem := List.mem_of_getElem? hp
      have hflat : Flat tj := hf _ hmem
      have hsz := Nat.le_trans (catF_mem pairP (l.map attrP) j (attrP (kj, tj, qj)) (by rw [List.getElem?_map, hp]; rfl)) hB
      unfold pairP attrP at hsz
      rw [ByteArray.size_append] at hsz
      have hg1 := frm_ge kj
      have hg2 := frm_ge (markS qj ++ tKey tj)
      rw [ByteArray.size_append, markS_size] at hg2
      have hsz2 : (frm kj).size + (frm (markS qj ++ tKey tj)).size ≤ 300000 := hsz
      obtain ⟨tk, htk⟩ : ∃ tk, tk = tKey tj := ⟨_, rfl⟩
      have hz : tk.size ≤ 300000 := by rw [htk]; omega
      have KW := Lib.hid (k0.then HK.out.2.1)
      have k0X := Lib.hid k0
      obtain ⟨kk, hkk⟩ : ∃ kk, kk = kf j := ⟨_, rfl⟩
      obtain ⟨ss, hss⟩ : ∃ ss, ss = sf j := ⟨_, rfl⟩
      obtain ⟨⟨eo, en, ec⟩, hee⟩ : ∃ ee, ee = ef j := ⟨_, rfl⟩
      obtain ⟨⟨lo, ln, lc⟩, haa⟩ : ∃ aa, aa = af j := ⟨_, rfl⟩
      rw [← hkk, ← hss, ← hee, ← haa] at hcs hty
      have HC := Lib.hid (show ∀ x, Keep NoB w0 x → x.cell? ⟨bv, offv + j * 6, none⟩ = some (.string kj) ∧ x.cell? ⟨bv, offv + j * 6 + 1, none⟩ = some (.bool qj) ∧ x.cell? ⟨bv, offv + j * 6 + 2, none⟩ = some (.int .i64 kk) ∧ x.cell? ⟨bv, offv + j * 6 + 3, none⟩ = some (.string ss) ∧ x.cell? ⟨bv, offv + j * 6 + 4, none⟩ = some (.slice eo en ec) ∧ x.cell? ⟨bv, offv + j * 6 + 5, none⟩ = some (.slice lo ln lc) from fun x kx => by
        have hc := hcs.keep kx (NoB.not _)
        exact ⟨hc 0 _ rfl, hc 1 _ rfl, hc 2 _ rfl, hc 3 _ rfl, hc 4 _ rfl, hc 5 _ rfl⟩)
      have HT := Lib.hid (show ∀ x, Keep NoB w0 x → Calls Tryz.prog 50 #[.agg #[.int .i64 kk, .string ss, .slice eo en ec, .slice lo ln lc]] x fun e w' => e = .returned (.string tk) ∧ Keep NoB x w' from fun x kx => by
        rw [htk]
        exact typeKey_c hflat w0 M _ hty (by omega) x kx)
      have HP := Lib.hid (And.intro hp htk)
      have HS := Lib.hid (show ∀ x, Keep NoB w0 x → x.cell? ⟨bv, offv + j * 6, none⟩ = some (.string kj) ∧ x.cell? ⟨bv, offv + j * 6 + 2, none⟩ = some (.int .i64 kk) ∧ x.cell? ⟨bv, offv + j * 6 + 3, none⟩ = some (.string ss) ∧ x.cell? ⟨bv, offv + j * 6 + 4, none⟩ = some (.slice eo en ec) ∧ x.cell? ⟨bv, offv + j * 6 + 5, none⟩ = some (.slice lo ln lc) from fun x kx => by
        obtain ⟨q0, _, q2, q3, q4, q5⟩ := HC.out x kx
        exact ⟨q0, q2, q3, q4, q5⟩)
      clear hn ht hf hs hnd hB k0 hMv hcell hjl hcs hty hmem hflat hsz hg1 hg2 hsz2 hp htk hkk hss hee haa
      have hs1 : ¬ 9223372036854775807 < 1 + tk.size := by omega
      have hs2 : ¬ 9223372036854775807 < (⟨#[33]⟩ : Str).size + tk.size := by have : (⟨#[33]⟩ : Str).size = 1 := rfl; omega
      have hs3 : ¬ 9223372036854775807 < (⟨#[63]⟩ : Str).size + tk.size := by have : (⟨#[63]⟩ : Str).size = 1 := rfl; omega
      obtain ⟨q0, q1, q2, q3, q4, q5⟩ := HC.out _ KW.out
      obtain ⟨mk, hmk⟩ : ∃ mk, mk = markS qj := ⟨_, rfl⟩
      have HMK := Lib.hid hmk
      cases qj
      · go_upto_region 8 with fail
        obtain ⟨q0, q1, q2, q3, q4, q5⟩ := HC.out _ (KW.out.then (Keep.drew _ _))
        go_region_held3 (fun x => x.cell? ⟨bv, offv + j * 6, none⟩ = some (.string kj) ∧ x.cell? ⟨bv, offv + j * 6 + 2, none⟩ = some (.int .i64 kk) ∧ x.cell? ⟨bv, offv + j * 6 + 3, none⟩ = some (.string ss) ∧ x.cell? ⟨bv, offv + j * 6 + 4, none⟩ = some (.slice eo en ec) ∧ x.cell? ⟨bv, offv + j * 6 + 5, none⟩ = some (.slice lo ln lc))
          (first | exact ⟨q0, q2, q3, q4, q5⟩ | exact HS.out _ HX.out.1 | exact HS.out _ (((KW.out.then (Keep.drew _ _)).then k4).then (Keep.alloc _ _ _)) | exact HS.out _ ((KW.out.then (Keep.drew _ _)).then k4))
          ((first
            | (go_at_call 50; refine (HT.out _ (KW.out.then (Keep.drew _ _))).mono ?_; rintro e w4 ⟨rfl, k4⟩)
            | (obtain ⟨xs, hown, hpush⟩ := ((HK.out.1.keep0 PairC.keeps ((Keep.drew _ _).then k4)).keep0 PairC.keeps (Keep.alloc w4 (.cells #[.string kj, .string ((⟨#[33]⟩ : Str) ++ tk)] 178) NoB)).opened PairC.keeps
               refine step_append_lies _ (by rfl) _ _ _ (by rfl) w.heap.size 178 iU _ 2 32 Tryz.underlying176 HU.out.1 HU.out.2.1 HU.out.2.2.1 HU.out.2.2.2 rfl (by omega) _ _ xs (by rfl) hown
                 ⟨w4.heap.size, 0, none⟩ 1 1 [.string kj, .string ((⟨#[33]⟩ : Str) ++ tk)] (by rfl) (by rfl) (World.news_of_block (cs := #[.string kj, .string ((⟨#[33]⟩ : Str) ++ tk)]) (t := 178) (fr := (0, 0)) (heap_alloc_new w4 _)) (by simp [Value.oneCell'])
                 (by omega) (by rw [HK.out.2.2]; unfold maxLen; omega) (by rw [HK.out.2.2]; omega) (by have h1 := HK.out.2.1.size; have h2 := k4.size; simp at h2; simp; omega) (w4.heap.size + 1) (by simp) ?_
               intro gg cap w5 hown5 hgrow hgat hglt
               obtain ⟨hr5, hk5⟩ := hpush gg cap w5 (kj, (⟨#[33]⟩ : Str) ++ tk) [.string kj, .string ((⟨#[33]⟩ : Str) ++ tk)] rfl rfl hown5 hgrow (by simpa using hgat)
               have kk5 := (((HK.out.2.1.then (Keep.drew _ _)).then k4).then (Keep.alloc _ _ _)).trans hk5 (M'' := NoB) (fun _ _ h => h) (fun i hi h => by have := (HK.out.1.lt i h).1; omega)
               have HX := Lib.hid (And.intro (k0X.out.then kk5) (And.intro kk5 hr5))
               clear hr5 hk5 kk5 hown5 hgrow hgat hglt hown hpush k4)))
        all_goals
          clear q0 q1 q2 q3 q4 q5 hs1 hs2 hs3
          go_wp2_with fail
          go_roundg (gk - 1)
          case measure => omega
          case rel =>
            obtain ⟨_, kk5, hr5⟩ := HX.out
            refine ⟨j + 1, by omega, by go_num, ?_, kk5⟩
            obtain ⟨hp, htk⟩ := HP.out
            obtain ⟨hjl, hpe⟩ := List.getElem?_eq_some_iff.1 hp
            have e1 : attrP (kj, tj, false) = (kj, ⟨#[33]⟩ ++ tk) := by rw [htk]; rfl
            have e2 : min j l.length = j := by have := HA.out.1; omega
            rw [List.take_succ_eq_append_getElem (by rw [List.length_map]; exact hjl), List.getElem_map, hpe, e1, e2]
            rw [HK.out.2.2] at hr5
            exact hr5
      · go_upto_region 8 with fail
        obtain ⟨q0, q1, q2, q3, q4, q5⟩ := HC.out _ (KW.out.then (Keep.drew _ _))
        go_region_held3 (fun x => x.cell? ⟨bv, offv + j * 6, none⟩ = some (.string kj) ∧ x.cell? ⟨bv, offv + j * 6 + 2, none⟩ = some (.int .i64 kk) ∧ x.cell? ⟨bv, offv + j * 6 + 3, none⟩ = some (.string ss) ∧ x.cell? ⟨bv, offv + j * 6 + 4, none⟩ = some (.slice eo en ec) ∧ x.cell? ⟨bv, offv + j * 6 + 5, none⟩ = some (.slice lo ln lc))
          (first | exact ⟨q0, q2, q3, q4, q5⟩ | exact HS.out _ HX.out.1 | exact HS.out _ (((KW.out.then (Keep.drew _ _)).then k4).then (Keep.alloc _ _ _)) | exact HS.out _ ((KW.out.then (Keep.drew _ _)).then k4))
          ((first
            | (go_at_call 50; refine (HT.out _ (KW.out.then (Keep.drew _ _))).mono ?_; rintro e w4 ⟨rfl, k4⟩)
            | (obtain ⟨xs, hown, hpush⟩ := ((HK.out.1.keep0 PairC.keeps ((Keep.drew _ _).then k4)).keep0 PairC.keeps (Keep.alloc w4 (.cells #[.string kj, .string ((⟨#[63]⟩ : Str) ++ tk)] 178) NoB)).opened PairC.keeps
               refine step_append_lies _ (by rfl) _ _ _ (by rfl) w.heap.size 178 iU _ 2 32 Tryz.underlying176 HU.out.1 HU.out.2.1 HU.out.2.2.1 HU.out.2.2.2 rfl (by omega) _ _ xs (by rfl) hown
                 ⟨w4.heap.size, 0, none⟩ 1 1 [.string kj, .string ((⟨#[63]⟩ : Str) ++ tk)] (by rfl) (by rfl) (World.news_of_block (cs := #[.string kj, .string ((⟨#[63]⟩ : Str) ++ tk)]) (t := 178) (fr := (0, 0)) (heap_alloc_new w4 _)) (by simp [Value.oneCell'])
                 (by omega) (by rw [HK.out.2.2]; unfold maxLen; omega) (by rw [HK.out.2.2]; omega) (by have h1 := HK.out.2.1.size; have h2 := k4.size; simp at h2; simp; omega) (w4.heap.size + 1) (by simp) ?_
               intro gg cap w5 hown5 hgrow hgat hglt
               obtain ⟨hr5, hk5⟩ := hpush gg cap w5 (kj, (⟨#[63]⟩ : Str) ++ tk) [.string kj, .string ((⟨#[63]⟩ : Str) ++ tk)] rfl rfl hown5 hgrow (by simpa using hgat)
               have kk5 := (((HK.out.2.1.then (Keep.drew _ _)).then k4).then (Keep.alloc _ _ _)).trans hk5 (M'' := NoB) (fun _ _ h => h) (fun i hi h => by have := (HK.out.1.lt i h).1; omega)
               have HX := Lib.hid (And.intro (k0X.out.then kk5) (And.intro kk5 hr5))
               clear hr5 hk5 kk5 hown5 hgrow hgat hglt hown hpush k4)))
        all_goals
          clear q0 q1 q2 q3 q4 q5 hs1 hs2 hs3
          go_wp2_with fail
          go_roundg (gk - 1)
          case measure => omega
          case rel =>
            obtain ⟨_, kk5, hr5⟩ := HX.out
            refine ⟨j + 1, by omega, by go_num, ?_, kk5⟩
            obtain ⟨hp, htk⟩ := HP.out
            obtain ⟨hjl, hpe⟩ := List.getElem?_eq_some_iff.1 hp
            have e1 : attrP (kj, tj, true) = (kj, ⟨#[63]⟩ ++ tk) := by rw [htk]; rfl
            have e2 : min j l.length = j := by have := HA.out.1; omega
            rw [List.take_succ_eq_append_getElem (by rw [List.length_map]; exact hjl), List.getElem_map, hpe, e1, e2]
            rw [HK.out.2.2] at hr5
            exact hr5
    · have hjm : j = n := by omega
      subst hjm
      obtain ⟨hn, hc, ht, hf, hs, hnd, hB, k0⟩ := HA.out
      have e : (l.map attrP).take j = l.map attrP := List.take_of_length_le (by rw [List.length_map]; omega)
      have hrow := HK.out.1
      rw [e] at hrow
      obtain ⟨⟨so', sn', sc'⟩, hsv, hat⟩ := hrow.at PairC.keeps (M := NoB) (fun _ h => h.elim)
      simp only [slV, Value.slice.injEq] at hsv
      obtain ⟨rfl, rfl, rfl⟩ := hsv
      have HO := Lib.hid (fun x (kx : Keep NoB wr x) => ordering_c wr NoB (l.map attrP) oo j oc hat (by rw [attrP_fst]; exact hs) (by rw [attrP_fst]; exact hnd) (by rw [List.length_map]; omega) (Nat.le_trans hB (by decide)) x kx)
      clear hn hc ht hf hs hnd hB k0 e hrow hat
      go_wp2_with fail
      refine (HO.out _ (Keep.refl _ _)).mono ?_
      rintro e w2 ⟨rfl, k2⟩
      have K2 := Lib.hid k2
      clear k2
      go_wp2_with fail
      go_ret
      exact ⟨rfl, HK.out.2.1.then K2.out⟩
end Go.Proofs.YthhjehajdcgkhaaGreatDoor
