/- The walk of resolvedKey: schemas without actions; what the key of an entity type is comes as a premise. -/
import Derived.Test.YthhjehajdcgkhaaGreatDoorKey
namespace Go.Proofs.YthhjehajdcgkhaaGreatDoor
open Go.RowKit

def enumP (p : Str × List Str) : Str := frm p.1 ++ namesK p.2
def entP (kE : IEnt → Str) (p : Str × IEnt) : Str := frm p.1 ++ frm (kE p.2)
def rK (kE : IEnt → Str) (lE : List (Str × IEnt)) (lN : List (Str × List Str)) : Str := frm (frm (catF (entP kE) lE) ++ catF enumP lN)
/-- what the walk asks of the key of an entity type -/
def EntKeys (w0 : World) (M : Nat → Prop) (kE : IEnt → Str) (lE : List (Str × IEnt)) : Prop :=
  ∀ p ∈ lE, ∀ ps ats k s el al, OEntIs w0 M p.2 ps ats k s el al → ∀ w, Keep NoB w0 w →
    Calls Tryz.prog 30 #[.agg #[.string p.1, slV ps, slV ats, .bool p.2.tags.isSome, .int .i64 k, .string s, slV el, slV al]] w fun e w' => e = .returned (.string (kE p.2)) ∧ Keep NoB w w'

set_option maxRecDepth 100000 in
set_option maxHeartbeats 16000000 in
theorem resolvedKey_c (w0 : World) (M : Nat → Prop) (kE : IEnt → Str) (lE : List (Str × IEnt)) (lN : List (Str × List Str)) (so so2 so3 : Option Addr) (sl sl2 sc sc2 sc3 : Nat)
    (hE : RowAt EntC 8 w0 M lE (so, sl, sc)) (hN : RowAt EnumC 2 w0 M lN (so2, sl2, sc2)) (hk : EntKeys w0 M kE lE)
    (hlE : lE.length ≤ 1000000) (hlN : lN.length ≤ 1000000) (hvs : ∀ p ∈ lN, p.2.length ≤ 1000000) (bE : (catF (entP kE) lE).size ≤ 400000) (bN : (catF enumP lN).size ≤ 400000) (w : World) (k0 : Keep NoB w0 w) :
    Calls Tryz.prog 12 #[.agg #[.slice so sl sc, .slice so2 sl2 sc2, .slice so3 0 sc3]] w fun e w' => e = .returned (.string (rK kE lE lN)) ∧ Keep NoB w w' := by
  obtain ⟨hn, hE⟩ := hE
  obtain ⟨hn2, hN⟩ := hN
  replace hn : sl = lE.length := hn
  replace hn2 : sl2 = lN.length := hn2
  rw [← hn] at hlE
  rw [← hn2] at hlN
  obtain ⟨wb, hwb⟩ : ∃ wb, wb = w.alloc (.cells #[.slice so sl sc, .slice so2 sl2 sc2, .slice so3 0 sc3] 40) := ⟨_, rfl⟩
  have kb : Keep NoB w wb := hwb ▸ Keep.alloc _ _ _
  have hbb : wb.heap[w.heap.size]? = some (.cells #[.slice so sl sc, .slice so2 sl2 sc2, .slice so3 0 sc3] 40 (0, 0)) := hwb ▸ (MapKept.heap_alloc w _).1
  have HBX := Lib.hid (show ∀ x, Keep NoB wb x → x.cell? ⟨w.heap.size, 0, none⟩ = some (.slice so sl sc) ∧ x.cell? ⟨w.heap.size, 1, none⟩ = some (.slice so2 sl2 sc2) ∧ x.cell? ⟨w.heap.size, 2, none⟩ = some (.slice so3 0 sc3) from fun x kx => by
    have hbx := kx.heap hbb (NoB.not _)
    exact ⟨by rw [cell_cells hbx]; rfl, by rw [cell_cells hbx]; rfl, by rw [cell_cells hbx]; rfl⟩)
  have HA := Lib.hid (And.intro hn (And.intro hE (And.intro hk (And.intro bE (And.intro k0 kb)))))
  have HA2 := Lib.hid (And.intro hn2 (And.intro hN (And.intro hvs (And.intro bN k0))))
  clear hn hE hk bE hn2 hN hvs bN k0 kb hbb
  go_enter Tryz.func12, Tryz.ntmps12
  go_wp2_with fail
  rw [← hwb]
  clear hwb
  go_loopg [3, 4] sl (fun g s i wr => ∃ j : Nat, j + g = sl ∧ i = .int .i64 j ∧ s = .string (catF (entP kE) (lE.take j)) ∧ Keep NoB wb wr)
  case atStart => exact ⟨0, by omega, rfl, rfl, Keep.refl _ _⟩
  case round =>
    obtain ⟨j, hj, rfl, rfl, hkr⟩ := hrel
    have HK := Lib.hid hkr
    clear hkr
    have hq := HBX.out wr HK.out
    obtain ⟨q0, q1, q2⟩ := hq
    have hcs : (catF (entP kE) (lE.take j)).size ≤ 400000 := Nat.le_trans (catF_take _ lE j) HA.out.2.2.2.1
    obtain ⟨S, hS⟩ : ∃ S, S = catF (entP kE) (lE.take j) := ⟨_, rfl⟩
    rw [← hS] at hcs ⊢
    have HS := Lib.hid hS
    clear hS
    by_cases hlt : j < sl
    · obtain ⟨hm, hE, hkk, hB, k0, kb⟩ := HA.out
      rcases hE with h0 | ⟨bv, offv, hso, hMv, hcell⟩
      · subst h0
        exact absurd hlt (by rw [hm]; simp)
      replace hso : so = some ⟨bv, offv, none⟩ := hso
      have hjl : j < lE.length := by omega
      obtain ⟨p, hp⟩ : ∃ p, lE[j]? = some p := ⟨_, List.getElem?_eq_getElem hjl⟩
      obtain ⟨cs, hcl, hcs8, ps, ats, k, s, el, al, rfl, hent⟩ := hcell j p hp
      have hsz := Nat.le_trans (catF_mem (entP kE) lE j p hp) hB
      unfold entP at hsz
      rw [ByteArray.size_append] at hsz
      have hg1 := frm_ge p.1
      have hg2 := frm_ge (kE p.2)
      obtain ⟨nj, hnj⟩ : ∃ nj, nj = p.1 := ⟨_, rfl⟩
      obtain ⟨kj, hkj⟩ : ∃ kj, kj = kE p.2 := ⟨_, rfl⟩
      obtain ⟨tb, htb⟩ : ∃ tb, tb = p.2.tags.isSome := ⟨_, rfl⟩
      have hEK := hkk p (List.mem_of_getElem? hp) _ _ _ _ _ _ hent
      rw [← htb] at hEK hcs8
      rw [← hnj] at hEK hcs8 hg1 hsz
      rw [← hkj] at hEK hg2 hsz
      have hbnd : nj.size ≤ 400000 ∧ kj.size ≤ 400000 := ⟨by omega, by omega⟩
      have hfb : (frm nj).size + (frm kj).size ≤ 400000 := hsz
      have HEK := Lib.hid (show ∀ x, Keep NoB wr x → Calls Tryz.prog 30 #[.agg #[.string nj, slV ps, slV ats, .bool tb, .int .i64 k, .string s, slV el, slV al]] x fun e w' => e = .returned (.string kj) ∧ Keep NoB x w' from fun x kx => hEK x (((k0.then kb).then HK.out).then kx))
      have HQ := Lib.hid (show ∀ x, Keep NoB wr x → x.cell? ⟨w.heap.size, 0, none⟩ = some (.slice so sl sc) ∧ x.cell? ⟨bv, offv + j * 8, none⟩ = some (.string nj) ∧ x.cell? ⟨bv, offv + j * 8 + 1, none⟩ = some (slV ps) ∧ x.cell? ⟨bv, offv + j * 8 + 2, none⟩ = some (slV ats) ∧ x.cell? ⟨bv, offv + j * 8 + 3, none⟩ = some (.bool tb) ∧ x.cell? ⟨bv, offv + j * 8 + 4, none⟩ = some (.int .i64 k) ∧ x.cell? ⟨bv, offv + j * 8 + 5, none⟩ = some (.string s) ∧ x.cell? ⟨bv, offv + j * 8 + 6, none⟩ = some (slV el) ∧ x.cell? ⟨bv, offv + j * 8 + 7, none⟩ = some (slV al) from fun x kx => by
        have hc := hcs8.keep (((k0.then kb).then HK.out).then kx) (NoB.not _)
        exact ⟨(HBX.out x (HK.out.then kx)).1, hc 0 _ rfl, hc 1 _ rfl, hc 2 _ rfl, hc 3 _ rfl, hc 4 _ rfl, hc 5 _ rfl, hc 6 _ rfl, hc 7 _ rfl⟩)
      have HP := Lib.hid (And.intro hp (And.intro hnj hkj))
      subst hso
      obtain ⟨po, pn, pc⟩ := ps
      obtain ⟨ao, an, ac⟩ := ats
      obtain ⟨eo, en, ec⟩ := el
      obtain ⟨lo, ln, lc⟩ := al
      clear hm hkk hB k0 kb hMv hcell hcl hcs8 hent hsz hg1 hg2 htb hEK hp hnj hkj hjl q1 q2
      simp only [slV] at HEK HQ
      have hs1 : ¬ 9223372036854775807 < (frm nj).size + (frm kj).size := by omega
      have hs2 : ¬ 9223372036854775807 < S.size + ((frm nj).size + (frm kj).size) := by omega
      go_upto_region 5 with fail
      have hK0 : Keep NoB wr wr.drew := Keep.drew _ _
      have hq := HQ.out _ hK0
      obtain ⟨q0, q1, q2, q3, q4, q5, q6, q7, q8⟩ := hq
      go_region_held3 (fun x => Keep NoB wr x ∧ x.cell? ⟨w.heap.size, 0, none⟩ = some (.slice (some ⟨bv, offv, none⟩) sl sc) ∧ x.cell? ⟨bv, offv + j * 8, none⟩ = some (.string nj) ∧ x.cell? ⟨bv, offv + j * 8 + 1, none⟩ = some (.slice po pn pc) ∧ x.cell? ⟨bv, offv + j * 8 + 2, none⟩ = some (.slice ao an ac) ∧ x.cell? ⟨bv, offv + j * 8 + 3, none⟩ = some (.bool tb) ∧ x.cell? ⟨bv, offv + j * 8 + 4, none⟩ = some (.int .i64 k) ∧ x.cell? ⟨bv, offv + j * 8 + 5, none⟩ = some (.string s) ∧ x.cell? ⟨bv, offv + j * 8 + 6, none⟩ = some (.slice eo en ec) ∧ x.cell? ⟨bv, offv + j * 8 + 7, none⟩ = some (.slice lo ln lc))
        (with_reducible (first
          | exact ⟨kwA, HQ.out _ kwA⟩
          | exact ⟨hK0, HQ.out _ hK0⟩
          | assumption))
        ((first
          | (go_at_call 30
             refine (HEK.out _ (by go_split_ands; assumption)).mono ?_
             rintro e w4 ⟨rfl, k4⟩
             have kwA : Keep NoB wr w4 := Keep.then (by go_split_ands; assumption) k4)
          | (go_at_call 29
             refine (framed_c _ (by omega) _).mono ?_
             rintro e w4 ⟨rfl, k4⟩
             have kwA : Keep NoB wr w4 := Keep.then (by go_split_ands; assumption) k4)))
      have KA := Lib.hid kwA
      clear kwA k4 hK0 q0 q1 q2 q3 q4 q5 q6 q7 q8 hs1 hs2
      go_wp2_with fail
      go_roundg (gk - 1)
      case measure => omega
      case rel =>
        refine ⟨j + 1, by omega, by go_num, ?_, HK.out.then KA.out⟩
        obtain ⟨hp, hnj, hkj⟩ := HP.out
        obtain ⟨hjl, rfl⟩ := List.getElem?_eq_some_iff.1 hp
        rw [List.take_succ_eq_append_getElem hjl, catF_snoc, HS.out, hnj, hkj]
        rfl
    · have hjm : j = sl := by omega
      have hSE : S = catF (entP kE) lE := by rw [HS.out, hjm, HA.out.1, List.take_length]
      have HSE := Lib.hid hSE
      clear hSE
      subst hjm
      go_wp2_with fail
      refine (framed_c S (by omega) _).mono ?_
      rintro e w5 ⟨rfl, k5⟩
      have hfs := frm_size (s := S) (by omega)
      have hF : (frm S).size ≤ 400008 := by omega
      obtain ⟨F, hFe⟩ : ∃ F, F = frm S := ⟨_, rfl⟩
      rw [← hFe] at hF ⊢
      have HF := Lib.hid (And.intro hFe (HK.out.then k5))
      clear hfs hFe k5 q0 q1 q2
      go_wp2_with fail
      go_loopg [3, 5] sl2 (fun g s i wr => ∃ j : Nat, j + g = sl2 ∧ i = .int .i64 j ∧ s = .string (F ++ catF enumP (lN.take j)) ∧ Keep NoB wb wr)
      case atStart => exact ⟨0, by omega, rfl, congrArg Value.string (ByteArray.append_empty (b := F)).symm, HF.out.2⟩
      case round =>
        obtain ⟨j2, hj2, rfl, rfl, hkr⟩ := hrel
        have HK2 := Lib.hid hkr
        clear hkr
        obtain ⟨q0, q1, q2⟩ := HBX.out wr HK2.out
        have hcs2 : (catF enumP (lN.take j2)).size ≤ 400000 := Nat.le_trans (catF_take _ lN j2) HA2.out.2.2.2.1
        have hcs3 : (F ++ catF enumP (lN.take j2)).size ≤ 800008 := by rw [ByteArray.size_append]; omega
        obtain ⟨S2, hS2⟩ : ∃ S2, S2 = F ++ catF enumP (lN.take j2) := ⟨_, rfl⟩
        rw [← hS2] at hcs3 ⊢
        have HS2 := Lib.hid hS2
        clear hS2 hcs2
        by_cases hlt2 : j2 < sl2
        · obtain ⟨hm, hN, hvs, hB, k0⟩ := HA2.out
          rcases hN with h0 | ⟨bv, offv, hso, hMv, hcell⟩
          · subst h0
            exact absurd hlt2 (by rw [hm]; simp)
          replace hso : so2 = some ⟨bv, offv, none⟩ := hso
          have hjl : j2 < lN.length := by omega
          obtain ⟨p, hp⟩ : ∃ p, lN[j2]? = some p := ⟨_, List.getElem?_eq_getElem hjl⟩
          obtain ⟨cs, hcl, hcs8, ⟨vo, vn, vc⟩, rfl, hent⟩ := hcell j2 p hp
          have hsz := Nat.le_trans (catF_mem enumP lN j2 p hp) hB
          unfold enumP at hsz
          rw [ByteArray.size_append] at hsz
          have hg1 := frm_ge p.1
          have hg2 := frm_ge (catK p.2)
          have hvl := hvs p (List.mem_of_getElem? hp)
          obtain ⟨nj, hnj⟩ : ∃ nj, nj = p.1 := ⟨_, rfl⟩
          obtain ⟨kj, hkj⟩ : ∃ kj, kj = namesK p.2 := ⟨_, rfl⟩
          have hsz2 : (frm p.1).size + (namesK p.2).size ≤ 400000 := hsz
          have hck : (catK p.2).size ≤ 900000 := Nat.le_trans hg2 (by show (namesK p.2).size ≤ _; omega)
          have HEK := Lib.hid (show ∀ x, Keep NoB wr x → Calls Tryz.prog 31 #[.slice vo vn vc] x fun e w' => e = .returned (.string kj) ∧ Keep NoB x w' from fun x kx => by
            rw [hkj]
            exact namesKey_c w0 M p.2 vo vn vc hent hvl hck x (((k0.then HA.out.2.2.2.2.2).then HK2.out).then kx))
          rw [← hnj] at hcs8 hg1 hsz2
          rw [← hkj] at hsz2
          have hbnd : nj.size ≤ 400000 ∧ kj.size ≤ 400000 := ⟨by omega, by omega⟩
          have hfb : (frm nj).size + kj.size ≤ 400000 := hsz2
          have HQ := Lib.hid (show ∀ x, Keep NoB wr x → x.cell? ⟨w.heap.size, 1, none⟩ = some (.slice so2 sl2 sc2) ∧ x.cell? ⟨bv, offv + j2 * 2, none⟩ = some (.string nj) ∧ x.cell? ⟨bv, offv + j2 * 2 + 1, none⟩ = some (.slice vo vn vc) from fun x kx => by
            have hc := hcs8.keep (((k0.then HA.out.2.2.2.2.2).then HK2.out).then kx) (NoB.not _)
            exact ⟨(HBX.out x (HK2.out.then kx)).2.1, hc 0 _ rfl, hc 1 _ rfl⟩)
          have HP := Lib.hid (And.intro hp (And.intro hnj hkj))
          subst hso
          clear hm hvs hB k0 hMv hcell hcl hcs8 hent hsz hg1 hg2 hvl hsz2 hck hp hnj hkj hjl q0 q2
          have hs1 : ¬ 9223372036854775807 < (frm nj).size + kj.size := by omega
          have hs2 : ¬ 9223372036854775807 < S2.size + ((frm nj).size + kj.size) := by omega
          go_upto_region 10 with fail
          have hK0 : Keep NoB wr wr.drew := Keep.drew _ _
          have hq := HQ.out _ hK0
          obtain ⟨q0, q1, q2⟩ := hq
          go_region_held3 (fun x => Keep NoB wr x ∧ x.cell? ⟨w.heap.size, 1, none⟩ = some (.slice (some ⟨bv, offv, none⟩) sl2 sc2) ∧ x.cell? ⟨bv, offv + j2 * 2, none⟩ = some (.string nj) ∧ x.cell? ⟨bv, offv + j2 * 2 + 1, none⟩ = some (.slice vo vn vc))
            (with_reducible (first
              | exact ⟨kwA, HQ.out _ kwA⟩
              | exact ⟨hK0, HQ.out _ hK0⟩
              | assumption))
            ((first
              | (go_at_call 31
                 refine (HEK.out _ (by go_split_ands; assumption)).mono ?_
                 rintro e w4 ⟨rfl, k4⟩
                 have kwA : Keep NoB wr w4 := Keep.then (by go_split_ands; assumption) k4)
              | (go_at_call 29
                 refine (framed_c _ (by omega) _).mono ?_
                 rintro e w4 ⟨rfl, k4⟩
                 have kwA : Keep NoB wr w4 := Keep.then (by go_split_ands; assumption) k4)))
          have KA := Lib.hid kwA
          clear kwA k4 hK0 q0 q1 q2 hs1 hs2
          go_wp2_with fail
          go_roundg (gk - 1)
          case measure => omega
          case rel =>
            refine ⟨j2 + 1, by omega, by go_num, ?_, HK2.out.then KA.out⟩
            obtain ⟨hp, hnj, hkj⟩ := HP.out
            obtain ⟨hjl, rfl⟩ := List.getElem?_eq_some_iff.1 hp
            rw [List.take_succ_eq_append_getElem hjl, catF_snoc, HS2.out, hnj, hkj, ByteArray.append_assoc]
            rfl
        · have hjm : j2 = sl2 := by omega
          have HSE2 := Lib.hid (show S2 = F ++ catF enumP lN by rw [HS2.out, hjm, HA2.out.1, List.take_length])
          subst hjm
          go_wp2_with fail
          refine (framed_c S2 (by omega) _).mono ?_
          rintro e w6 ⟨rfl, k6⟩
          have K6 := Lib.hid (HK2.out.then k6)
          obtain ⟨r0, r1, r2⟩ := HBX.out w6 K6.out
          clear k6 q0 q1 q2
          go_wp2_with fail
          refine wp_loop_rounds 1 ?_
          rw [rounds_succ]
          go_wp2_with fail
          go_ret
          refine ⟨?_, HA.out.2.2.2.2.2.then K6.out⟩
          rw [HSE2.out, HF.out.1, HSE.out]
          rfl
end Go.Proofs.YthhjehajdcgkhaaGreatDoor
