/- FnResolveAction: the walk of the law. -/
import Derived.Test.YtedgonoeeeiilaaGreatDoorJAc
import Derived.Test.YtedgonoeeeiilaaGreatDoorJVal
import Derived.IntWalk
import Derived.Deep.AppendLies
import Derived.Deep.RegionLaw
import Derived.Deep.RegionHeld3
namespace Go.Proofs.YtedgonoeeeiilaaGreatDoor
open Go.RowKit

theorem acS_typ (b : Bool) : qual (acS b) (⟨#[65, 99, 116, 105, 111, 110]⟩ : Str) = actionTy (acS b) := rfl
theorem eNs_snoc (j : Nat) : (List.range (j + 1)).map eN = (List.range j).map eN ++ [eN j] := by rw [List.range_succ, List.map_append]; rfl
theorem wNs_snoc (b : Bool) (j : Nat) : wNs b (j + 1) = wNs b j ++ [wN b j] := by unfold wNs; rw [List.range_succ, List.map_append]; rfl
theorem acRefs_snoc (b bare : Bool) (j : Nat) : acRefs b bare (j + 1) = acRefs b bare j ++ [acRef b bare j] := by unfold acRefs; rw [List.range_succ, List.map_append]; rfl
theorem eNs_len (j : Nat) : (eNs j).length = j := by unfold eNs; simp
theorem wNs_len (b : Bool) (j : Nat) : (wNs b j).length = j := by unfold wNs; simp
theorem acRefs_len (b bare : Bool) (j : Nat) : (acRefs b bare j).length = j := by unfold acRefs; simp

set_option maxRecDepth 100000 in
set_option maxHeartbeats 16000000 in
theorem action_c (nm : Str) (bare named : Bool) (many : Nat) (hm : many < 256) (hnm : nm.size ≤ 9223372036854775807) (w : World) (hT : Tabs w) :
    Calls Tryz.prog 4 #[.string nm, .bool bare, .bool named, .int .u8 many] w fun e w' => e = .returned (.bool true) ∧ Keep NoB w w' := by
  by_cases h0 : 2147483647 < nm.size
  · have h1 : (2147483647 : Int) < (nm.size : Int) := by omega
    clear hT
    go_enter Tryz.func4, Tryz.ntmps4
    go_wp2_with fail
    go_ret
    exact ⟨rfl, Keep.refl _ _⟩
  by_cases h50 : 50 < nm.size
  · have h1 : ¬ (2147483647 : Int) < (nm.size : Int) := by omega
    have h2 : (50 : Int) < (nm.size : Int) := by omega
    clear hT
    go_enter Tryz.func4, Tryz.ntmps4
    go_wp2_with fail
    go_ret
    exact ⟨rfl, Keep.refl _ _⟩
  have h1 : ¬ (2147483647 : Int) < (nm.size : Int) := by omega
  have h2 : ¬ (50 : Int) < (nm.size : Int) := by omega
  have hnz : nm.size ≤ 50 := by omega
  obtain ⟨iU, hiU, hzU, hsU, hbU⟩ := info_parts infoIEnt
  have HU := Bx.mk (And.intro hiU (And.intro hzU (And.intro hsU hbU)))
  clear hiU hzU hsU hbU
  obtain ⟨iS, hiU, hzU, hsU, hbU⟩ := info_parts infoStr9
  have HS := Bx.mk (And.intro hiU (And.intro hzU (And.intro hsU hbU)))
  clear hiU hzU hsU hbU
  obtain ⟨n, hn⟩ : ∃ n, n = 1 + many % 5 := ⟨_, rfl⟩
  have hni : (1 : Int) + (many : Int) % 5 = (n : Int) := by omega
  have hn5 : n ≤ 5 := by omega
  have hn0 : 0 < n := by omega
  have HT := Bx.mk hT
  clear hn hT h0 h50
  go_enter Tryz.func4, Tryz.ntmps4
  go_wp2_with fail
  refine (letters_c nm (by omega) _ HT.out).mono ?_
  rintro e w1 ⟨⟨b, rfl⟩, k1⟩
  have K1 := Bx.mk k1
  clear k1
  cases b
  · go_wp2_with fail
    go_ret
    exact ⟨rfl, K1.out⟩
  go_upto_if 31 with fail
  go_cut [9] (fun s9 wx => s9 = .string (acS named) ∧ wx = w1)
  case first =>
    cases named
    · go_wp2_with fail
      go_meet
      case rel => exact ⟨rfl, rfl⟩
    · go_wp2_with fail
      go_meet
      case rel => exact ⟨rfl, rfl⟩
  case rest =>
    obtain ⟨rfl, hwc⟩ := hcut
    subst hwc
    have hsz := acS_size named
    have HTY := Bx.mk (acS_typ named)
    obtain ⟨s, hs⟩ : ∃ s, s = acS named := ⟨_, rfl⟩
    rw [← hs] at hsz ⊢
    have HSN := Bx.mk hs
    clear hs
    go_wp2_with (go_at_call 9; (refine (joinName_c s _ _ (by omega) (by decide)).mono ?_); rintro e w' ⟨rfl, hw'⟩; replace hw' := hw'.symm; subst hw')
    obtain ⟨ty, hty⟩ : ∃ ty, ty = qual s (⟨#[65, 99, 116, 105, 111, 110]⟩ : Str) := ⟨_, rfl⟩
    rw [← hty]
    have HTQ := Bx.mk hty
    clear hty
    have HST := Bx.mk (ac_start wc nm ty s)
    obtain ⟨w1, rfl⟩ : ∃ w1 : World, w1 = wc := ⟨_, rfl⟩
    obtain ⟨wb, hwb⟩ : ∃ wb, wb = (((w1.alloc (acO1 nm)).alloc (acO2 ty nm)).alloc (acO3 s)).alloc acO4 := ⟨_, rfl⟩
    rw [← hwb] at HST ⊢
    clear hwb
    go_loopg [14] n (fun g s14 wr => ∃ (j : Nat) (vE vW vP vR vp vr : Value), j + g = n ∧ s14 = .int .i64 j ∧ AcSt w1 nm ty s (rowE (eNs j) vE) (rowE (wNs named j) vW) (rowS (acRefs named bare j) vP) (rowS (acRefs named bare j) vR) (rowS (wNs named j) vp) (rowS (wNs named j) vr) wr)
    case atStart => exact ⟨0, _, _, _, _, _, _, by omega, rfl, HST.out⟩
    case round =>
      obtain ⟨j, vE, vW, vP, vR, vp, vr, hj, rfl, hst⟩ := hrel
      by_cases hjn : j < n
      · have hwu : IntKind.u64.wrap (j : Int) = (j : Int) := IntWalk.u64_in _ (by omega)
        have HD := Bx.mk (show ∀ x, Calls Tryz.prog 5 #[.int .u64 (j : Int), .int .i64 1] x fun e w' => e = .returned (.string (digS j 1)) ∧ Keep NoB x w' from fun x => digits_c j 1 (by omega) (by omega) x)
        have hee : (⟨#[69]⟩ : Str) ++ digS j 1 = eN j := eN_eq (by omega)
        have hez := eN_size j (by omega)
        have hdz : (digS j 1).size ≤ 5 := by
          rw [← hee, ByteArray.size_append] at hez; omega
        obtain ⟨D, hD⟩ : ∃ D, D = digS j 1 := ⟨_, rfl⟩
        rw [← hD] at HD hee hdz
        have hs1 : ¬ 9223372036854775807 < 1 + D.size := by omega
        have HE := Bx.mk hee
        have HST2 := Bx.mk hst
        clear hD hee hst
        go_upto_block 1 with fail
        go_cut [14] from 42 to 96 (fun s14 wx => s14 = .int .i64 j ∧ ∃ vE' vW' vP' vR' vp' vr', AcSt w1 nm ty s (rowE (eNs (j + 1)) vE') (rowE (wNs named (j + 1)) vW') (rowS (acRefs named bare (j + 1)) vP') (rowS (acRefs named bare (j + 1)) vR') (rowS (wNs named (j + 1)) vp') (rowS (wNs named (j + 1)) vr') wx)
        case first =>
          go_upto_region 16 with (go_at_call 5; (refine (HD.out _).mono ?_); rintro e w2 ⟨rfl, k2⟩; have K2 := Bx.mk k2; clear k2)
          have hE2 := HE.out
          rw [hE2]
          obtain ⟨E, hE⟩ : ∃ E, E = eN j := ⟨_, rfl⟩
          rw [← hE] at hez ⊢
          obtain ⟨Wn, hWn⟩ : ∃ Wn, Wn = qual s E := ⟨_, rfl⟩
          have HEE := Bx.mk (And.intro hE hWn)
          clear hE2 hE hWn
          go_upto_region 17 with (go_at_call 9; (refine (joinName_c s E _ (by omega) (by omega)).mono ?_); rintro e w' ⟨rfl, hw'⟩; replace hw' := hw'.symm; subst hw')
          rw [← HEE.out.2]
          have hst := HST2.out.keep0 K2.out
          obtain ⟨oE, cE, eE⟩ := hst.rows.shape (A := [])
          obtain ⟨oW, cW, eW⟩ := hst.rows.shape (A := [rowE (eNs j) vE])
          obtain ⟨oP, cP, eP⟩ := hst.rows.shape (A := [rowE (eNs j) vE, rowE (wNs named j) vW])
          obtain ⟨oR, cR, eR⟩ := hst.rows.shape (A := [rowE (eNs j) vE, rowE (wNs named j) vW, rowS (acRefs named bare j) vP])
          obtain ⟨op, cp, ep⟩ := hst.rows.shape (A := [rowE (eNs j) vE, rowE (wNs named j) vW, rowS (acRefs named bare j) vP, rowS (acRefs named bare j) vR])
          obtain ⟨or, cr, er⟩ := hst.rows.shape (A := [rowE (eNs j) vE, rowE (wNs named j) vW, rowS (acRefs named bare j) vP, rowS (acRefs named bare j) vR, rowS (wNs named j) vp])
          replace eE : vE = .slice oE (eNs j).length cE := eE
          replace eW : vW = .slice oW (wNs named j).length cW := eW
          replace eP : vP = .slice oP (acRefs named bare j).length cP := eP
          replace eR : vR = .slice oR (acRefs named bare j).length cR := eR
          replace ep : vp = .slice op (wNs named j).length cp := ep
          replace er : vr = .slice or (wNs named j).length cr := er
          rw [eNs_len] at eE
          rw [wNs_len] at eW ep er
          rw [acRefs_len] at eP eR
          subst eE eW eP eR ep er
          have HS2 := Bx.mk hst
          clear hst
          go_cut [14, 15, 16] from 42 to 96 (fun s14 s15 s16 wx => s14 = .int .i64 j ∧ s15 = .string E ∧ s16 = .string Wn ∧ ∃ vE', AcSt w1 nm ty s (rowE (eNs j ++ [E]) vE') (rowE (wNs named j) (.slice oW j cW)) (rowS (acRefs named bare j) (.slice oP j cP)) (rowS (acRefs named bare j) (.slice oR j cR)) (rowS (wNs named j) (.slice op j cp)) (rowS (wNs named j) (.slice or j cr)) wx)
          case first =>
            have hz2 := HS2.out.size
            obtain ⟨c1, z1⟩ := cellz HS2.out.bN 1 _ rfl
            replace c1 : w2.cell? ⟨w1.heap.size + 1 + 1, 1, none⟩ = some (.slice oE j cE) := c1
            clear z1
            go_wp2_with (at_builtin
                         refine wpList_append_lies _ rfl _ _ 35 rfl (w1.heap.size + 4) 53 iU _ 8 144 Tryz.underlying35 HU.out.1 HU.out.2.1 HU.out.2.2.1 HU.out.2.2.2 rfl (by omega) (.slice oE j cE) j (entsZ (eNs j)) rfl ((ownE (A := []) HS2.out.rows (eNs_len j)).alloc _) ⟨w2.heap.size, 0, none⟩ 1 1 (entZ E) rfl rfl
                           (World.news_of_block (cs := #[.string E, .slice none 0 0, .slice none 0 0, .bool false, .int .i64 0, .string ⟨#[]⟩, .slice none 0 0, .slice none 0 0]) (t := 53) (fr := (0, 0)) (heap_alloc_new w2 _)) (by simp [entZ, Value.oneCell']) (by omega) (by unfold maxLen; omega) (by omega) ?c5 (w2.heap.size + 1) (by simp) ?_
                         case c5 => rw [World.size_alloc]; omega
                         intro gg cap w8 hown8 hgrow hgat hglt
                         obtain ⟨hr8, hk8⟩ := growE (A := []) (B := [rowE (wNs named j) (.slice oW j cW), rowS (acRefs named bare j) (.slice oP j cP), rowS (acRefs named bare j) (.slice oR j cR), rowS (wNs named j) (.slice op j cp), rowS (wNs named j) (.slice or j cr)]) (HS2.out.rows.keep0 (Keep.alloc _ _ _)) (eNs_len j) hown8 hgrow hgat (by simp)
                         have hkk := (Keep.alloc w2 (.cells #[.string E, .slice none 0 0, .slice none 0 0, .bool false, .int .i64 0, .string ⟨#[]⟩, .slice none 0 0, .slice none 0 0] 53) (fun i => w1.heap.size + 4 ≤ i)).trans hk8 (M'' := fun i => w1.heap.size + 4 ≤ i) (fun _ _ h => h) (fun _ _ h => h)
                         have H8 := Bx.mk (And.intro hr8 hkk)
                         obtain ⟨c8, z8⟩ := cellz (HS2.out.blocks hkk).bN 1 _ rfl
                         replace c8 : w8.cell? ⟨w1.heap.size + 1 + 1, 1, none⟩ = some (.slice oE j cE) := c8
                         replace z8 : w8.frozen? ⟨w1.heap.size + 1 + 1, 1, none⟩ = false := z8
                         clear hr8 hk8 hkk hown8 hgrow hgat hglt)
            go_meet
            case rel => exact ⟨rfl, rfl, rfl, _, HS2.out.stepE H8.out.2 H8.out.1⟩
          case rest =>
          obtain ⟨rfl, rfl, rfl, vE', hst⟩ := hcut
          have HS3 := Bx.mk hst
          clear hst
          obtain ⟨w3, rfl⟩ : ∃ w3 : World, w3 = wc := ⟨_, rfl⟩
          go_upto_region 18 with fail
          go_cut [14, 15, 16] from 42 to 96 (fun s14 s15 s16 wx => s14 = .int .i64 j ∧ s15 = .string E ∧ s16 = .string Wn ∧ ∃ vW', AcSt w1 nm ty s (rowE (eNs j ++ [E]) vE') (rowE (wNs named j ++ [Wn]) vW') (rowS (acRefs named bare j) (.slice oP j cP)) (rowS (acRefs named bare j) (.slice oR j cR)) (rowS (wNs named j) (.slice op j cp)) (rowS (wNs named j) (.slice or j cr)) wx)
          case first =>
            have hz2 := HS3.out.size
            obtain ⟨c1, z1⟩ := cellz HS3.out.bR 0 _ rfl
            replace c1 : w3.cell? ⟨w1.heap.size + 1 + 1 + 1, 0, none⟩ = some (.slice oW j cW) := c1
            clear z1
            go_wp2_with (at_builtin
                         refine wpList_append_lies _ rfl _ _ 35 rfl (w1.heap.size + 4) 53 iU _ 8 144 Tryz.underlying35 HU.out.1 HU.out.2.1 HU.out.2.2.1 HU.out.2.2.2 rfl (by omega) (.slice oW j cW) j (entsZ (wNs named j)) rfl ((ownE (A := [rowE (eNs j ++ [E]) vE']) HS3.out.rows (wNs_len named j)).alloc _) ⟨w3.heap.size, 0, none⟩ 1 1 (entZ Wn) rfl rfl
                           (World.news_of_block (cs := #[.string Wn, .slice none 0 0, .slice none 0 0, .bool false, .int .i64 0, .string ⟨#[]⟩, .slice none 0 0, .slice none 0 0]) (t := 53) (fr := (0, 0)) (heap_alloc_new w3 _)) (by simp [entZ, Value.oneCell']) (by omega) (by unfold maxLen; omega) (by omega) ?c6 (w3.heap.size + 1) (by simp) ?_
                         case c6 => rw [World.size_alloc]; omega
                         intro gg cap w8 hown8 hgrow hgat hglt
                         obtain ⟨hr8, hk8⟩ := growE (A := [rowE (eNs j ++ [E]) vE']) (B := [rowS (acRefs named bare j) (.slice oP j cP), rowS (acRefs named bare j) (.slice oR j cR), rowS (wNs named j) (.slice op j cp), rowS (wNs named j) (.slice or j cr)]) (HS3.out.rows.keep0 (Keep.alloc _ _ _)) (wNs_len named j) hown8 hgrow hgat (by simp)
                         have hkk := (Keep.alloc w3 (.cells #[.string Wn, .slice none 0 0, .slice none 0 0, .bool false, .int .i64 0, .string ⟨#[]⟩, .slice none 0 0, .slice none 0 0] 53) (fun i => w1.heap.size + 4 ≤ i)).trans hk8 (M'' := fun i => w1.heap.size + 4 ≤ i) (fun _ _ h => h) (fun _ _ h => h)
                         have H8 := Bx.mk (And.intro hr8 hkk)
                         obtain ⟨c8, z8⟩ := cellz (HS3.out.blocks hkk).bR 0 _ rfl
                         replace c8 : w8.cell? ⟨w1.heap.size + 1 + 1 + 1, 0, none⟩ = some (.slice oW j cW) := c8
                         replace z8 : w8.frozen? ⟨w1.heap.size + 1 + 1 + 1, 0, none⟩ = false := z8
                         clear hr8 hk8 hkk hown8 hgrow hgat hglt)
            go_meet
            case rel => exact ⟨rfl, rfl, rfl, _, HS3.out.stepW H8.out.2 H8.out.1⟩
          case rest =>
          obtain ⟨rfl, rfl, rfl, vW', hst⟩ := hcut
          have HS4 := Bx.mk hst
          clear hst
          obtain ⟨w4, rfl⟩ : ∃ w4 : World, w4 = wc := ⟨_, rfl⟩
          go_upto_region 19 with fail
          go_cut [14, 15, 16] from 42 to 96 (fun s14 s15 s16 wx => s14 = .int .i64 j ∧ s15 = .string E ∧ s16 = .string Wn ∧ ∃ vp' vr', AcSt w1 nm ty s (rowE (eNs j ++ [E]) vE') (rowE (wNs named j ++ [Wn]) vW') (rowS (acRefs named bare j) (.slice oP j cP)) (rowS (acRefs named bare j) (.slice oR j cR)) (rowS (wNs named j ++ [Wn]) vp') (rowS (wNs named j ++ [Wn]) vr') wx)
          case first => as_aux_lemma =>
          -- R19 begins
            have hz4 := HS4.out.size
            have HB := Bx.mk (show ∀ x, Keep (fun i => w1.heap.size + 4 ≤ i) w4 x → x.cell? ⟨w1.heap.size + 1, 4, none⟩ = some (.slice op j cp) ∧ x.cell? ⟨w1.heap.size + 1, 5, none⟩ = some (.slice or j cr) ∧ x.frozen? ⟨w1.heap.size + 1, 4, none⟩ = false ∧ x.frozen? ⟨w1.heap.size + 1, 5, none⟩ = false from fun x kx => by
              have hb := HS4.out.blocks kx
              obtain ⟨c4, z4⟩ := cellz hb.bM 4 _ rfl
              obtain ⟨c5, z5⟩ := cellz hb.bM 5 _ rfl
              exact ⟨c4, c5, z4, z5⟩)
            have HLT := Bx.mk (show ∀ v, v = Value.slice op j cp ∨ v = Value.slice or j cr → ∀ i, OB v i → i < w4.heap.size from by
              rintro v (rfl | rfl) i hi
              · exact (HS4.out.rows.own_lt (A := [rowE (eNs j ++ [E]) vE', rowE (wNs named j ++ [Wn]) vW', rowS (acRefs named bare j) (.slice oP j cP), rowS (acRefs named bare j) (.slice oR j cR)]) i hi).2
              · exact (HS4.out.rows.own_lt (A := [rowE (eNs j ++ [E]) vE', rowE (wNs named j ++ [Wn]) vW', rowS (acRefs named bare j) (.slice oP j cP), rowS (acRefs named bare j) (.slice oR j cR), rowS (wNs named j) (.slice op j cp)]) i hi).2)
            have N1 := Bx.mk (show ((w4.alloc (.cells #[.string Wn] 9)).drew).cell? ⟨w4.heap.size, 0, none⟩ = some (.string Wn) from alloc_one _ _ _)
            have N2 := Bx.mk (show (((w4.alloc (.cells #[.string Wn] 9)).alloc (.cells #[.string Wn] 9)).drew).cell? ⟨w4.heap.size, 0, none⟩ = some (.string Wn) from (Keep.alloc _ _ NoB).cell (alloc_one _ _ _) (NoB.not _))
            have N3 := Bx.mk (show (((w4.alloc (.cells #[.string Wn] 9)).alloc (.cells #[.string Wn] 9)).drew).cell? ⟨w4.heap.size + 1, 0, none⟩ = some (.string Wn) from by
              have h := alloc_one (w4.alloc (.cells #[.string Wn] 9)) (.string Wn) 9
              rw [World.size_alloc] at h
              exact h)
            clear h1 h2 hwu hdz hs1 hez hsz
            obtain ⟨c4, c5, z4, z5⟩ := HB.out _ (Keep.drew w4 _)
            have b4 := fun O => (HB.out (w4.alloc O) (Keep.alloc _ _ _)).1
            have b5 := fun O => (HB.out (w4.alloc O) (Keep.alloc _ _ _)).2.1
            have d4 := fun O O' => (HB.out ((w4.alloc O).alloc O') ((Keep.alloc _ _ _).then (Keep.alloc _ _ _))).1
            have d5 := fun O O' => (HB.out ((w4.alloc O).alloc O') ((Keep.alloc _ _ _).then (Keep.alloc _ _ _))).2.1
            go_region_law
              (first
                | (refine step_append_lies _ (by rfl) _ _ _ (by rfl) (w1.heap.size + 4) 9 iS _ 1 16 Tryz.underlying26 HS.out.1 HS.out.2.1 HS.out.2.2.1 HS.out.2.2.2 rfl (by omega) (.slice op j cp) j (strsZ (wNs named j)) (by rfl) (ownS (A := [rowE (eNs j ++ [E]) vE', rowE (wNs named j ++ [Wn]) vW', rowS (acRefs named bare j) (.slice oP j cP), rowS (acRefs named bare j) (.slice oR j cR)]) (B := [rowS ((wNs named j) ++ [Wn]) (.slice (some ⟨gr, 0, none⟩) (j + 1) capr)]) (R5r.out.keep0 (by first | exact Keep.refl _ _ | exact Keep.alloc _ _ _)) (wNs_len named j)) _ 1 1 [.string Wn] (by rfl) (by rfl) (one_new (by first | exact n5a | exact n5b | exact alloc_one _ _ _)) (by simp [Value.oneCell']) (by omega) (by unfold maxLen; omega) (by omega) (by first | omega | (simp; omega)) _ rfl ?_
                   intro gp capp wB hown5 hgrow hgat hglt
                   obtain ⟨r5, k5⟩ := growS (A := [rowE (eNs j ++ [E]) vE', rowE (wNs named j ++ [Wn]) vW', rowS (acRefs named bare j) (.slice oP j cP), rowS (acRefs named bare j) (.slice oR j cR)]) (B := [rowS ((wNs named j) ++ [Wn]) (.slice (some ⟨gr, 0, none⟩) (j + 1) capr)]) (R5r.out.keep0 (by first | exact Keep.refl _ _ | exact Keep.alloc _ _ _)) (wNs_len named j) hown5 hgrow hgat rfl
                   have kk : Keep (fun i => w1.heap.size + 4 ≤ i) w4 wB := K5.out.trans (Keep.first (by first | exact Keep.refl _ _ | exact Keep.alloc _ _ _) k5) (fun _ _ h => h) (fun _ _ h => h)
                   obtain ⟨c4, c5, z4, z5⟩ := HB.out _ kk
                   have HF := Bx.mk (And.intro r5 kk)
                   clear r5 k5 kk hown5 hgrow hgat hglt)
                | (refine step_append_lies _ (by rfl) _ _ _ (by rfl) (w1.heap.size + 4) 9 iS _ 1 16 Tryz.underlying26 HS.out.1 HS.out.2.1 HS.out.2.2.1 HS.out.2.2.2 rfl (by omega) (.slice or j cr) j (strsZ (wNs named j)) (by rfl) (ownS (A := [rowE (eNs j ++ [E]) vE', rowE (wNs named j ++ [Wn]) vW', rowS (acRefs named bare j) (.slice oP j cP), rowS (acRefs named bare j) (.slice oR j cR), rowS ((wNs named j) ++ [Wn]) (.slice (some ⟨gp, 0, none⟩) (j + 1) capp)]) (B := []) (R5p.out.keep0 (by first | exact Keep.refl _ _ | exact Keep.alloc _ _ _)) (wNs_len named j)) _ 1 1 [.string Wn] (by rfl) (by rfl) (one_new (by first | exact n5a | exact n5b | exact alloc_one _ _ _)) (by simp [Value.oneCell']) (by omega) (by unfold maxLen; omega) (by omega) (by first | omega | (simp; omega)) _ rfl ?_
                   intro gr capr wB hown5 hgrow hgat hglt
                   obtain ⟨r5, k5⟩ := growS (A := [rowE (eNs j ++ [E]) vE', rowE (wNs named j ++ [Wn]) vW', rowS (acRefs named bare j) (.slice oP j cP), rowS (acRefs named bare j) (.slice oR j cR), rowS ((wNs named j) ++ [Wn]) (.slice (some ⟨gp, 0, none⟩) (j + 1) capp)]) (B := []) (R5p.out.keep0 (by first | exact Keep.refl _ _ | exact Keep.alloc _ _ _)) (wNs_len named j) hown5 hgrow hgat rfl
                   have kk : Keep (fun i => w1.heap.size + 4 ≤ i) w4 wB := K5.out.trans (Keep.first (by first | exact Keep.refl _ _ | exact Keep.alloc _ _ _) k5) (fun _ _ h => h) (fun _ _ h => h)
                   obtain ⟨c4, c5, z4, z5⟩ := HB.out _ kk
                   have HF := Bx.mk (And.intro r5 kk)
                   clear r5 k5 kk hown5 hgrow hgat hglt)
                | (refine step_append_lies _ (by rfl) _ _ _ (by rfl) (w1.heap.size + 4) 9 iS _ 1 16 Tryz.underlying26 HS.out.1 HS.out.2.1 HS.out.2.2.1 HS.out.2.2.2 rfl (by omega) (.slice op j cp) j (strsZ (wNs named j)) (by rfl) (ownS (A := [rowE (eNs j ++ [E]) vE', rowE (wNs named j ++ [Wn]) vW', rowS (acRefs named bare j) (.slice oP j cP), rowS (acRefs named bare j) (.slice oR j cR)]) (B := [rowS (wNs named j) (.slice or j cr)]) (HS4.out.rows.keep0 (by first | exact (Keep.alloc _ _ NoB).then (Keep.drew _ _) | exact ((Keep.alloc _ _ NoB).then (Keep.alloc _ _ _)).then (Keep.drew _ _))) (wNs_len named j)) _ 1 1 [.string Wn] (by rfl) (by rfl) (one_new (by first | exact N1.out | exact N2.out | exact N3.out)) (by simp [Value.oneCell']) (by omega) (by unfold maxLen; omega) (by omega) (by first | omega | (simp; omega)) _ rfl ?_
                   intro gp capp wA hown5 hgrow hgat hglt
                   obtain ⟨r5, k5⟩ := growS (A := [rowE (eNs j ++ [E]) vE', rowE (wNs named j ++ [Wn]) vW', rowS (acRefs named bare j) (.slice oP j cP), rowS (acRefs named bare j) (.slice oR j cR)]) (B := [rowS (wNs named j) (.slice or j cr)]) (HS4.out.rows.keep0 (by first | exact (Keep.alloc _ _ NoB).then (Keep.drew _ _) | exact ((Keep.alloc _ _ NoB).then (Keep.alloc _ _ _)).then (Keep.drew _ _))) (wNs_len named j) hown5 hgrow hgat rfl
                   have kk : Keep (fun i => w1.heap.size + 4 ≤ i) w4 wA := Keep.first (by first | exact (Keep.alloc _ _ NoB).then (Keep.drew _ _) | exact ((Keep.alloc _ _ NoB).then (Keep.alloc _ _ _)).then (Keep.drew _ _)) k5
                   have n5a : wA.cell? ⟨w4.heap.size, 0, none⟩ = some (.string Wn) := (Keep.grown (M := OB (.slice op j cp)) hgrow (fun i hi _ => hi)).cell (by first | exact N1.out | exact N2.out) (fun h => absurd (HLT.out _ (.inl rfl) _ h) (Nat.lt_irrefl _))
                   try have n5b : wA.cell? ⟨w4.heap.size + 1, 0, none⟩ = some (.string Wn) := (Keep.grown (M := OB (.slice op j cp)) hgrow (fun i hi _ => hi)).cell N3.out (fun h => absurd (HLT.out _ (.inl rfl) _ h) (by show ¬ _ < _; simp))
                   obtain ⟨c4, c5, z4, z5⟩ := HB.out _ kk
                   have cO := fun O => (HB.out (wA.alloc O) (kk.then (Keep.alloc _ _ _))).2.1
                   have hz5 : w1.heap.size + 4 ≤ wA.heap.size := Nat.le_trans hz4 kk.size
                   have R5p := Bx.mk r5
                   have K5 := Bx.mk kk
                   clear r5 k5 kk hown5 hgrow hgat hglt)
                | (refine step_append_lies _ (by rfl) _ _ _ (by rfl) (w1.heap.size + 4) 9 iS _ 1 16 Tryz.underlying26 HS.out.1 HS.out.2.1 HS.out.2.2.1 HS.out.2.2.2 rfl (by omega) (.slice or j cr) j (strsZ (wNs named j)) (by rfl) (ownS (A := [rowE (eNs j ++ [E]) vE', rowE (wNs named j ++ [Wn]) vW', rowS (acRefs named bare j) (.slice oP j cP), rowS (acRefs named bare j) (.slice oR j cR), rowS (wNs named j) (.slice op j cp)]) (B := []) (HS4.out.rows.keep0 (by first | exact (Keep.alloc _ _ NoB).then (Keep.drew _ _) | exact ((Keep.alloc _ _ NoB).then (Keep.alloc _ _ _)).then (Keep.drew _ _))) (wNs_len named j)) _ 1 1 [.string Wn] (by rfl) (by rfl) (one_new (by first | exact N1.out | exact N2.out | exact N3.out)) (by simp [Value.oneCell']) (by omega) (by unfold maxLen; omega) (by omega) (by first | omega | (simp; omega)) _ rfl ?_
                   intro gr capr wA hown5 hgrow hgat hglt
                   obtain ⟨r5, k5⟩ := growS (A := [rowE (eNs j ++ [E]) vE', rowE (wNs named j ++ [Wn]) vW', rowS (acRefs named bare j) (.slice oP j cP), rowS (acRefs named bare j) (.slice oR j cR), rowS (wNs named j) (.slice op j cp)]) (B := []) (HS4.out.rows.keep0 (by first | exact (Keep.alloc _ _ NoB).then (Keep.drew _ _) | exact ((Keep.alloc _ _ NoB).then (Keep.alloc _ _ _)).then (Keep.drew _ _))) (wNs_len named j) hown5 hgrow hgat rfl
                   have kk : Keep (fun i => w1.heap.size + 4 ≤ i) w4 wA := Keep.first (by first | exact (Keep.alloc _ _ NoB).then (Keep.drew _ _) | exact ((Keep.alloc _ _ NoB).then (Keep.alloc _ _ _)).then (Keep.drew _ _)) k5
                   have n5a : wA.cell? ⟨w4.heap.size, 0, none⟩ = some (.string Wn) := (Keep.grown (M := OB (.slice or j cr)) hgrow (fun i hi _ => hi)).cell (by first | exact N1.out | exact N2.out) (fun h => absurd (HLT.out _ (.inr rfl) _ h) (Nat.lt_irrefl _))
                   try have n5b : wA.cell? ⟨w4.heap.size + 1, 0, none⟩ = some (.string Wn) := (Keep.grown (M := OB (.slice or j cr)) hgrow (fun i hi _ => hi)).cell N3.out (fun h => absurd (HLT.out _ (.inr rfl) _ h) (by show ¬ _ < _; simp))
                   obtain ⟨c4, c5, z4, z5⟩ := HB.out _ kk
                   have cO := fun O => (HB.out (wA.alloc O) (kk.then (Keep.alloc _ _ _))).1
                   have hz5 : w1.heap.size + 4 ≤ wA.heap.size := Nat.le_trans hz4 kk.size
                   have R5r := Bx.mk r5
                   have K5 := Bx.mk kk
                   clear r5 k5 kk hown5 hgrow hgat hglt))
            all_goals
              go_wp2_with fail
              go_meet
              case rel => exact ⟨rfl, rfl, rfl, _, _, HS4.out.stepM HF.out.2 HF.out.1⟩
          -- R19 ends
          case rest =>
          obtain ⟨rfl, rfl, rfl, vp', vr', hst⟩ := hcut
          have HS5 := Bx.mk hst
          clear hst
          obtain ⟨w5, rfl⟩ : ∃ w5 : World, w5 = wc := ⟨_, rfl⟩
          go_upto_if 83 with fail
          go_cut [14, 15, 16] from 42 to 96 (fun s14 s15 s16 wx => s14 = .int .i64 j ∧ s15 = .string E ∧ s16 = .string (if bare then E else Wn) ∧ wx = w5)
          case first =>
            cases bare
            · go_wp2_with fail
              go_meet
              case rel => exact ⟨rfl, rfl, rfl, rfl⟩
            · go_wp2_with fail
              go_meet
              case rel => exact ⟨rfl, rfl, rfl, rfl⟩
          case rest =>
          obtain ⟨rfl, rfl, rfl, hwc⟩ := hcut
          subst hwc
          obtain ⟨Q, hQ⟩ : ∃ Q, Q = if bare then E else Wn := ⟨_, rfl⟩
          rw [← hQ]
          have HQ := Bx.mk hQ
          clear hQ
          obtain ⟨w6, rfl⟩ : ∃ w6 : World, w6 = wc := ⟨_, rfl⟩
          have HS6 := Bx.mk HS5.out
          clear HS5
          have HFIN := Bx.mk (show ∀ (vE vW vP vR vp vr : Value) (x : World), AcSt w1 nm ty s (rowE (eNs j ++ [E]) vE) (rowE (wNs named j ++ [Wn]) vW) (rowS (acRefs named bare j ++ [Q]) vP) (rowS (acRefs named bare j ++ [Q]) vR) (rowS (wNs named j ++ [Wn]) vp) (rowS (wNs named j ++ [Wn]) vr) x → AcSt w1 nm ty s (rowE (eNs (j + 1)) vE) (rowE (wNs named (j + 1)) vW) (rowS (acRefs named bare (j + 1)) vP) (rowS (acRefs named bare (j + 1)) vR) (rowS (wNs named (j + 1)) vp) (rowS (wNs named (j + 1)) vr) x from fun vE vW vP vR vp vr x h => by
            obtain ⟨hE, hWn⟩ := HEE.out
            have hWn2 : Wn = wN named j := by rw [hWn, hE, HSN.out]; rfl
            have hQ2 : Q = acRef named bare j := by rw [HQ.out, hE, hWn2]; rfl
            rw [hQ2, hWn2, hE, ← wNs_snoc, ← acRefs_snoc, show eNs j ++ [eN j] = eNs (j + 1) from (eNs_snoc j).symm] at h
            exact h)
          go_upto_region 22 with fail
          as_aux_lemma =>
          -- R22 begins
          have hz4 := HS6.out.size
          have HB := Bx.mk (show ∀ x, Keep (fun i => w1.heap.size + 4 ≤ i) w6 x → x.cell? ⟨w1.heap.size, 3, none⟩ = some (.slice oP j cP) ∧ x.cell? ⟨w1.heap.size, 4, none⟩ = some (.slice oR j cR) ∧ x.frozen? ⟨w1.heap.size, 3, none⟩ = false ∧ x.frozen? ⟨w1.heap.size, 4, none⟩ = false from fun x kx => by
            have hb := HS6.out.blocks kx
            obtain ⟨c4, z4⟩ := cellz hb.bX 3 _ rfl
            obtain ⟨c5, z5⟩ := cellz hb.bX 4 _ rfl
            exact ⟨c4, c5, z4, z5⟩)
          have HLT := Bx.mk (show ∀ v, v = Value.slice oP j cP ∨ v = Value.slice oR j cR → ∀ i, OB v i → i < w6.heap.size from by
            rintro v (rfl | rfl) i hi
            · exact (HS6.out.rows.own_lt (A := [rowE (eNs j ++ [E]) vE', rowE (wNs named j ++ [Wn]) vW']) i hi).2
            · exact (HS6.out.rows.own_lt (A := [rowE (eNs j ++ [E]) vE', rowE (wNs named j ++ [Wn]) vW', rowS (acRefs named bare j) (.slice oP j cP)]) i hi).2)
          have N1 := Bx.mk (show ((w6.alloc (.cells #[.string Q] 9)).drew).cell? ⟨w6.heap.size, 0, none⟩ = some (.string Q) from alloc_one _ _ _)
          have N2 := Bx.mk (show (((w6.alloc (.cells #[.string Q] 9)).alloc (.cells #[.string Q] 9)).drew).cell? ⟨w6.heap.size, 0, none⟩ = some (.string Q) from (Keep.alloc _ _ NoB).cell (alloc_one _ _ _) (NoB.not _))
          have N3 := Bx.mk (show (((w6.alloc (.cells #[.string Q] 9)).alloc (.cells #[.string Q] 9)).drew).cell? ⟨w6.heap.size + 1, 0, none⟩ = some (.string Q) from by
            have h := alloc_one (w6.alloc (.cells #[.string Q] 9)) (.string Q) 9
            rw [World.size_alloc] at h
            exact h)
          clear h1 h2 hwu hdz hs1 hez hsz
          obtain ⟨c4, c5, z4, z5⟩ := HB.out _ (Keep.drew w6 _)
          have b4 := fun O => (HB.out (w6.alloc O) (Keep.alloc _ _ _)).1
          have b5 := fun O => (HB.out (w6.alloc O) (Keep.alloc _ _ _)).2.1
          have d4 := fun O O' => (HB.out ((w6.alloc O).alloc O') ((Keep.alloc _ _ _).then (Keep.alloc _ _ _))).1
          have d5 := fun O O' => (HB.out ((w6.alloc O).alloc O') ((Keep.alloc _ _ _).then (Keep.alloc _ _ _))).2.1
          go_region_law
            (first
              | (refine step_append_lies _ (by rfl) _ _ _ (by rfl) (w1.heap.size + 4) 9 iS _ 1 16 Tryz.underlying26 HS.out.1 HS.out.2.1 HS.out.2.2.1 HS.out.2.2.2 rfl (by omega) (.slice oP j cP) j (strsZ (acRefs named bare j)) (by rfl) (ownS (A := [rowE (eNs j ++ [E]) vE', rowE (wNs named j ++ [Wn]) vW']) (B := [rowS ((acRefs named bare j) ++ [Q]) (.slice (some ⟨gR, 0, none⟩) (j + 1) capR), rowS (wNs named j ++ [Wn]) vp', rowS (wNs named j ++ [Wn]) vr']) (R5R.out.keep0 (by first | exact Keep.refl _ _ | exact Keep.alloc _ _ _)) (acRefs_len named bare j)) _ 1 1 [.string Q] (by rfl) (by rfl) (one_new (by first | exact n5a | exact n5b | exact alloc_one _ _ _)) (by simp [Value.oneCell']) (by omega) (by unfold maxLen; omega) (by omega) (by first | omega | (simp; omega)) _ rfl ?_
                 intro gP capP wB hown5 hgrow hgat hglt
                 obtain ⟨r5, k5⟩ := growS (A := [rowE (eNs j ++ [E]) vE', rowE (wNs named j ++ [Wn]) vW']) (B := [rowS ((acRefs named bare j) ++ [Q]) (.slice (some ⟨gR, 0, none⟩) (j + 1) capR), rowS (wNs named j ++ [Wn]) vp', rowS (wNs named j ++ [Wn]) vr']) (R5R.out.keep0 (by first | exact Keep.refl _ _ | exact Keep.alloc _ _ _)) (acRefs_len named bare j) hown5 hgrow hgat rfl
                 have kk : Keep (fun i => w1.heap.size + 4 ≤ i) w6 wB := K5.out.trans (Keep.first (by first | exact Keep.refl _ _ | exact Keep.alloc _ _ _) k5) (fun _ _ h => h) (fun _ _ h => h)
                 obtain ⟨c4, c5, z4, z5⟩ := HB.out _ kk
                 have HF := Bx.mk (And.intro r5 kk)
                 clear r5 k5 kk hown5 hgrow hgat hglt)
              | (refine step_append_lies _ (by rfl) _ _ _ (by rfl) (w1.heap.size + 4) 9 iS _ 1 16 Tryz.underlying26 HS.out.1 HS.out.2.1 HS.out.2.2.1 HS.out.2.2.2 rfl (by omega) (.slice oR j cR) j (strsZ (acRefs named bare j)) (by rfl) (ownS (A := [rowE (eNs j ++ [E]) vE', rowE (wNs named j ++ [Wn]) vW', rowS ((acRefs named bare j) ++ [Q]) (.slice (some ⟨gP, 0, none⟩) (j + 1) capP)]) (B := [rowS (wNs named j ++ [Wn]) vp', rowS (wNs named j ++ [Wn]) vr']) (R5P.out.keep0 (by first | exact Keep.refl _ _ | exact Keep.alloc _ _ _)) (acRefs_len named bare j)) _ 1 1 [.string Q] (by rfl) (by rfl) (one_new (by first | exact n5a | exact n5b | exact alloc_one _ _ _)) (by simp [Value.oneCell']) (by omega) (by unfold maxLen; omega) (by omega) (by first | omega | (simp; omega)) _ rfl ?_
                 intro gR capR wB hown5 hgrow hgat hglt
                 obtain ⟨r5, k5⟩ := growS (A := [rowE (eNs j ++ [E]) vE', rowE (wNs named j ++ [Wn]) vW', rowS ((acRefs named bare j) ++ [Q]) (.slice (some ⟨gP, 0, none⟩) (j + 1) capP)]) (B := [rowS (wNs named j ++ [Wn]) vp', rowS (wNs named j ++ [Wn]) vr']) (R5P.out.keep0 (by first | exact Keep.refl _ _ | exact Keep.alloc _ _ _)) (acRefs_len named bare j) hown5 hgrow hgat rfl
                 have kk : Keep (fun i => w1.heap.size + 4 ≤ i) w6 wB := K5.out.trans (Keep.first (by first | exact Keep.refl _ _ | exact Keep.alloc _ _ _) k5) (fun _ _ h => h) (fun _ _ h => h)
                 obtain ⟨c4, c5, z4, z5⟩ := HB.out _ kk
                 have HF := Bx.mk (And.intro r5 kk)
                 clear r5 k5 kk hown5 hgrow hgat hglt)
              | (refine step_append_lies _ (by rfl) _ _ _ (by rfl) (w1.heap.size + 4) 9 iS _ 1 16 Tryz.underlying26 HS.out.1 HS.out.2.1 HS.out.2.2.1 HS.out.2.2.2 rfl (by omega) (.slice oP j cP) j (strsZ (acRefs named bare j)) (by rfl) (ownS (A := [rowE (eNs j ++ [E]) vE', rowE (wNs named j ++ [Wn]) vW']) (B := [rowS (acRefs named bare j) (.slice oR j cR), rowS (wNs named j ++ [Wn]) vp', rowS (wNs named j ++ [Wn]) vr']) (HS6.out.rows.keep0 (by first | exact (Keep.alloc _ _ NoB).then (Keep.drew _ _) | exact ((Keep.alloc _ _ NoB).then (Keep.alloc _ _ _)).then (Keep.drew _ _))) (acRefs_len named bare j)) _ 1 1 [.string Q] (by rfl) (by rfl) (one_new (by first | exact N1.out | exact N2.out | exact N3.out)) (by simp [Value.oneCell']) (by omega) (by unfold maxLen; omega) (by omega) (by first | omega | (simp; omega)) _ rfl ?_
                 intro gP capP wA hown5 hgrow hgat hglt
                 obtain ⟨r5, k5⟩ := growS (A := [rowE (eNs j ++ [E]) vE', rowE (wNs named j ++ [Wn]) vW']) (B := [rowS (acRefs named bare j) (.slice oR j cR), rowS (wNs named j ++ [Wn]) vp', rowS (wNs named j ++ [Wn]) vr']) (HS6.out.rows.keep0 (by first | exact (Keep.alloc _ _ NoB).then (Keep.drew _ _) | exact ((Keep.alloc _ _ NoB).then (Keep.alloc _ _ _)).then (Keep.drew _ _))) (acRefs_len named bare j) hown5 hgrow hgat rfl
                 have kk : Keep (fun i => w1.heap.size + 4 ≤ i) w6 wA := Keep.first (by first | exact (Keep.alloc _ _ NoB).then (Keep.drew _ _) | exact ((Keep.alloc _ _ NoB).then (Keep.alloc _ _ _)).then (Keep.drew _ _)) k5
                 have n5a : wA.cell? ⟨w6.heap.size, 0, none⟩ = some (.string Q) := (Keep.grown (M := OB (.slice oP j cP)) hgrow (fun i hi _ => hi)).cell (by first | exact N1.out | exact N2.out) (fun h => absurd (HLT.out _ (.inl rfl) _ h) (Nat.lt_irrefl _))
                 try have n5b : wA.cell? ⟨w6.heap.size + 1, 0, none⟩ = some (.string Q) := (Keep.grown (M := OB (.slice oP j cP)) hgrow (fun i hi _ => hi)).cell N3.out (fun h => absurd (HLT.out _ (.inl rfl) _ h) (by show ¬ _ < _; simp))
                 obtain ⟨c4, c5, z4, z5⟩ := HB.out _ kk
                 have cO := fun O => (HB.out (wA.alloc O) (kk.then (Keep.alloc _ _ _))).2.1
                 have hz5 : w1.heap.size + 4 ≤ wA.heap.size := Nat.le_trans hz4 kk.size
                 have R5P := Bx.mk r5
                 have K5 := Bx.mk kk
                 clear r5 k5 kk hown5 hgrow hgat hglt)
              | (refine step_append_lies _ (by rfl) _ _ _ (by rfl) (w1.heap.size + 4) 9 iS _ 1 16 Tryz.underlying26 HS.out.1 HS.out.2.1 HS.out.2.2.1 HS.out.2.2.2 rfl (by omega) (.slice oR j cR) j (strsZ (acRefs named bare j)) (by rfl) (ownS (A := [rowE (eNs j ++ [E]) vE', rowE (wNs named j ++ [Wn]) vW', rowS (acRefs named bare j) (.slice oP j cP)]) (B := [rowS (wNs named j ++ [Wn]) vp', rowS (wNs named j ++ [Wn]) vr']) (HS6.out.rows.keep0 (by first | exact (Keep.alloc _ _ NoB).then (Keep.drew _ _) | exact ((Keep.alloc _ _ NoB).then (Keep.alloc _ _ _)).then (Keep.drew _ _))) (acRefs_len named bare j)) _ 1 1 [.string Q] (by rfl) (by rfl) (one_new (by first | exact N1.out | exact N2.out | exact N3.out)) (by simp [Value.oneCell']) (by omega) (by unfold maxLen; omega) (by omega) (by first | omega | (simp; omega)) _ rfl ?_
                 intro gR capR wA hown5 hgrow hgat hglt
                 obtain ⟨r5, k5⟩ := growS (A := [rowE (eNs j ++ [E]) vE', rowE (wNs named j ++ [Wn]) vW', rowS (acRefs named bare j) (.slice oP j cP)]) (B := [rowS (wNs named j ++ [Wn]) vp', rowS (wNs named j ++ [Wn]) vr']) (HS6.out.rows.keep0 (by first | exact (Keep.alloc _ _ NoB).then (Keep.drew _ _) | exact ((Keep.alloc _ _ NoB).then (Keep.alloc _ _ _)).then (Keep.drew _ _))) (acRefs_len named bare j) hown5 hgrow hgat rfl
                 have kk : Keep (fun i => w1.heap.size + 4 ≤ i) w6 wA := Keep.first (by first | exact (Keep.alloc _ _ NoB).then (Keep.drew _ _) | exact ((Keep.alloc _ _ NoB).then (Keep.alloc _ _ _)).then (Keep.drew _ _)) k5
                 have n5a : wA.cell? ⟨w6.heap.size, 0, none⟩ = some (.string Q) := (Keep.grown (M := OB (.slice oR j cR)) hgrow (fun i hi _ => hi)).cell (by first | exact N1.out | exact N2.out) (fun h => absurd (HLT.out _ (.inr rfl) _ h) (Nat.lt_irrefl _))
                 try have n5b : wA.cell? ⟨w6.heap.size + 1, 0, none⟩ = some (.string Q) := (Keep.grown (M := OB (.slice oR j cR)) hgrow (fun i hi _ => hi)).cell N3.out (fun h => absurd (HLT.out _ (.inr rfl) _ h) (by show ¬ _ < _; simp))
                 obtain ⟨c4, c5, z4, z5⟩ := HB.out _ kk
                 have cO := fun O => (HB.out (wA.alloc O) (kk.then (Keep.alloc _ _ _))).1
                 have hz5 : w1.heap.size + 4 ≤ wA.heap.size := Nat.le_trans hz4 kk.size
                 have R5R := Bx.mk r5
                 have K5 := Bx.mk kk
                 clear r5 k5 kk hown5 hgrow hgat hglt))
          all_goals
            go_wp2_with fail
            go_meet
            case rel => exact ⟨rfl, _, _, _, _, _, _, HFIN.out _ _ _ _ _ _ _ (HS6.out.stepX HF.out.2 HF.out.1)⟩
          -- R22 ends
        case rest =>
          obtain ⟨rfl, vE', vW', vP', vR', vp', vr', hst⟩ := hcut
          have HS7 := Bx.mk hst
          clear hst
          go_wp2_with fail
          go_roundg (gk - 1)
          case measure => omega
          case rel => exact ⟨j + 1, vE', vW', vP', vR', vp', vr', by omega, by go_num, HS7.out⟩
      · obtain rfl : n = j := by omega
        obtain rfl : s = acS named := HSN.out
        obtain rfl : ty = actionTy (acS named) := HTQ.out
        obtain ⟨oE, cE, eE⟩ := hst.rows.shape (A := [])
        obtain ⟨oW, cW, eW⟩ := hst.rows.shape (A := [rowE (eNs n) vE])
        obtain ⟨oP, cP, eP⟩ := hst.rows.shape (A := [rowE (eNs n) vE, rowE (wNs named n) vW])
        obtain ⟨oR, cR, eR⟩ := hst.rows.shape (A := [rowE (eNs n) vE, rowE (wNs named n) vW, rowS (acRefs named bare n) vP])
        obtain ⟨op, cp, ep⟩ := hst.rows.shape (A := [rowE (eNs n) vE, rowE (wNs named n) vW, rowS (acRefs named bare n) vP, rowS (acRefs named bare n) vR])
        obtain ⟨or, cr, er⟩ := hst.rows.shape (A := [rowE (eNs n) vE, rowE (wNs named n) vW, rowS (acRefs named bare n) vP, rowS (acRefs named bare n) vR, rowS (wNs named n) vp])
        replace eE : vE = .slice oE (eNs n).length cE := eE
        replace eW : vW = .slice oW (wNs named n).length cW := eW
        replace eP : vP = .slice oP (acRefs named bare n).length cP := eP
        replace eR : vR = .slice oR (acRefs named bare n).length cR := eR
        replace ep : vp = .slice op (wNs named n).length cp := ep
        replace er : vr = .slice or (wNs named n).length cr := er
        rw [eNs_len] at eE
        rw [wNs_len] at eW ep er
        rw [acRefs_len] at eP eR
        subst eE eW eP eR ep er
        have HS2 := Bx.mk hst
        clear hst
        go_upto_region 23 with fail
        go_cut [] (fun wx => ∃ b9, w1.heap.size + 4 ≤ b9 ∧ AcA w1 nm (actionTy (acS named)) (acS named) (rowE (eNs n) (.slice oE n cE)) (rowE (wNs named n) (.slice oW n cW)) (rowS (acRefs named bare n) (.slice oP n cP)) (rowS (acRefs named bare n) (.slice oR n cR)) (rowS (wNs named n) (.slice op n cp)) (rowS (wNs named n) (.slice or n cr)) b9 wx)
        case first =>
          obtain ⟨x0, x1, x2, x3, x4, x5, x6, x7, x8, -⟩ := cells9 HS2.out.bX
          dsimp only [rowS] at x3 x4
          have hbn := (Keep.alloc wr (.cells #[.string nm, .slice none 0 0, .bool true, .slice oP n cP, .slice oR n cR, .int .i64 0, .string ⟨#[]⟩, .slice none 0 0, .slice none 0 0] 32) NoB).heap HS2.out.bN (NoB.not _)
          obtain ⟨y3, z3⟩ := cellz hbn 3 _ rfl
          replace y3 : (wr.alloc (.cells #[.string nm, .slice none 0 0, .bool true, .slice oP n cP, .slice oR n cR, .int .i64 0, .string ⟨#[]⟩, .slice none 0 0, .slice none 0 0] 32)).cell? ⟨w1.heap.size + 1 + 1, 3, none⟩ = some (.slice none 0 0) := y3
          replace z3 : (wr.alloc (.cells #[.string nm, .slice none 0 0, .bool true, .slice oP n cP, .slice oR n cR, .int .i64 0, .string ⟨#[]⟩, .slice none 0 0, .slice none 0 0] 32)).frozen? ⟨w1.heap.size + 1 + 1, 3, none⟩ = false := z3
          clear hbn
          go_wp2_with fail
          go_meet
          case rel => exact ⟨_, HS2.out.size, HS2.out.stepA⟩
        case rest =>
        obtain ⟨b9, hb9, hA⟩ := hcut
        have HA := Bx.mk hA
        clear hA
        obtain ⟨w8, rfl⟩ : ∃ w8 : World, w8 = wc := ⟨_, rfl⟩
        go_upto_region 24 with fail
        go_cut [] (fun wx => ∃ b7, AcB w1 nm (actionTy (acS named)) (acS named) (rowE (eNs n) (.slice oE n cE)) (rowE (wNs named n) (.slice oW n cW)) (rowS (acRefs named bare n) (.slice oP n cP)) (rowS (acRefs named bare n) (.slice oR n cR)) (rowS (wNs named n) (.slice op n cp)) (rowS (wNs named n) (.slice or n cr)) b9 b7 wx)
        case first =>
          obtain ⟨⟨x0, x1, x2, x3, x4, x5, x6⟩, -⟩ := cells7 HA.out.bM
          dsimp only [rowS] at x4 x5
          have hbn := (Keep.alloc w8 (.cells #[.string (actionTy (acS named)), .string nm, .slice none 0 0, .bool true, .slice op n cp, .slice or n cr, .slice none 0 0] 48) NoB).heap HA.out.bR (NoB.not _)
          obtain ⟨y3, z3⟩ := cellz hbn 2 _ rfl
          replace y3 : (w8.alloc (.cells #[.string (actionTy (acS named)), .string nm, .slice none 0 0, .bool true, .slice op n cp, .slice or n cr, .slice none 0 0] 48)).cell? ⟨w1.heap.size + 1 + 1 + 1, 2, none⟩ = some (.slice none 0 0) := y3
          replace z3 : (w8.alloc (.cells #[.string (actionTy (acS named)), .string nm, .slice none 0 0, .bool true, .slice op n cp, .slice or n cr, .slice none 0 0] 48)).frozen? ⟨w1.heap.size + 1 + 1 + 1, 2, none⟩ = false := z3
          clear hbn
          go_wp2_with fail
          go_meet
          case rel => exact ⟨_, HA.out.stepB hb9⟩
        case rest =>
        obtain ⟨b7, hB⟩ := hcut
        have HB := Bx.mk hB
        clear hB HA HS2
        obtain ⟨w9, rfl⟩ : ∃ w9 : World, w9 = wc := ⟨_, rfl⟩
        have HI := Bx.mk (implResolve_c _ NoB (acL named bare n nm) (acD named bare n nm) (some ⟨w9.heap.size, 0, none⟩) 1 (ac_all hn5 hnz HB.out (O := .cells #[.string (acS named), .slice oE n cE, .slice none 0 0, .slice (some ⟨b9, 0, none⟩) 1 1, .slice none 0 0] 44) rfl) 1 (ac_ok hn5) _ (Keep.refl _ _))
        have y0 := (cellz HB.out.bN 0 _ rfl).1
        have y1 := (cellz HB.out.bN 1 _ rfl).1
        have y2 := (cellz HB.out.bN 2 _ rfl).1
        have y3 := (cellz HB.out.bN 3 _ rfl).1
        have y4 := (cellz HB.out.bN 4 _ rfl).1
        replace y0 : w9.cell? ⟨w1.heap.size + 1 + 1, 0, none⟩ = some (.string (acS named)) := y0
        replace y1 : w9.cell? ⟨w1.heap.size + 1 + 1, 1, none⟩ = some (.slice oE n cE) := y1
        replace y2 : w9.cell? ⟨w1.heap.size + 1 + 1, 2, none⟩ = some (.slice none 0 0) := y2
        replace y3 : w9.cell? ⟨w1.heap.size + 1 + 1, 3, none⟩ = some (.slice (some ⟨b9, 0, none⟩) 1 1) := y3
        replace y4 : w9.cell? ⟨w1.heap.size + 1 + 1, 4, none⟩ = some (.slice none 0 0) := y4
        go_wp2_with fail
        refine HI.out.mono ?_
        intro e w4 hpost
        obtain ⟨⟨so, sl, sc⟩, ⟨so2, sl2, sc2⟩, ⟨so3, sl3, sc3⟩, rfl, hrE, hN0, hrA, k4⟩ := ac_post hn5 hpost
        dsimp only at hN0
        subst hN0
        have H4 := Bx.mk (And.intro hrE (And.intro hrA k4))
        obtain ⟨w5, hw5⟩ : ∃ w5, w5 = w4.alloc (.cells #[.slice so sl sc, .slice so2 0 sc2, .slice so3 sl3 sc3] 39) := ⟨_, rfl⟩
        have k5 : Keep NoB w4 w5 := hw5 ▸ Keep.alloc _ _ _
        have hb5 : w5.heap[w4.heap.size]? = some (.cells #[.slice so sl sc, .slice so2 0 sc2, .slice so3 sl3 sc3] 39 (0, 0)) := hw5 ▸ (MapKept.heap_alloc w4 _).1
        have hB5 := HB.out.keep0 (((Keep.alloc w9 (.cells #[.string (acS named), .slice oE n cE, .slice none 0 0, .slice (some ⟨b9, 0, none⟩) 1 1, .slice none 0 0] 44) NoB).then k4).then k5)
        obtain ⟨key, hkey⟩ : ∃ key, key = rKA eK aKey (acW named n) [] [((actionTy (acS named), nm), acO named n)] := ⟨_, rfl⟩
        have H9 : Keep NoB w w5 := K1.out.then hB5.keep
        have hWn : (acW named n).length = n := by unfold acW; simp
        have kstep : ∀ (so so2 so3 : Option Addr) (sl sl3 sc sc2 sc3 : Nat), RowAt EntC 8 w5 NoB (acW named n) (so, sl, sc) → RowAt ActC 7 w5 NoB [((actionTy (acS named), nm), acO named n)] (so3, sl3, sc3) → ∀ x, Keep NoB w5 x → Calls Tryz.prog 10 #[.agg #[.slice so sl sc, .slice so2 0 sc2, .slice so3 sl3 sc3]] x fun e w' => e = .returned (.string key) ∧ Keep NoB x w' := fun so so2 so3 sl sl3 sc sc2 sc3 h1 h2 x kx => by
          rw [hkey]
          exact resolvedKeyA_c w5 NoB eK aKey (acW named n) [] [((actionTy (acS named), nm), acO named n)] so so2 so3 sl 0 sl3 sc sc2 sc3 h1 ⟨rfl, .inl rfl⟩ h2 (ac_entKeys _ _ _ _) (ac_ctxKeys _ _ _ _ _) (by rw [hWn]; omega) (by simp) (fun p hp => by simp at hp) (ac_bE named hn5) (by show (⟨#[]⟩ : Str).size ≤ _; decide) (by simp) (ac_few _ named hn5) (ac_bA nm hnz named hn5) x kx
        have q1 := kstep so so2 so3 sl sl3 sc sc2 sc3 (hrE.keep EntC.keeps (by omega) k5 (fun _ _ h => h.elim) (fun _ _ h => h.elim)) (hrA.keep ActC.keeps (by omega) k5 (fun _ _ h => h.elim) (fun _ _ h => h.elim))
        obtain ⟨oW', cW', eW', hrW⟩ := row_ents (A := [rowE (eNs n) (.slice oE n cE)]) hB5.rows
        cases eW'
        have q2 := kstep oW none (some ⟨b7, 0, none⟩) n 1 cW 0 1 hrW (ac_row hB5)
        have HK := Bx.mk (show ∀ v, (v = Value.agg #[.slice so sl sc, .slice so2 0 sc2, .slice so3 sl3 sc3] ∨ v = Value.agg #[.slice oW n cW, .slice none 0 0, .slice (some ⟨b7, 0, none⟩) 1 1]) → ∀ x, Keep NoB w5 x → Calls Tryz.prog 10 #[v] x fun e w' => e = .returned (.string key) ∧ Keep NoB x w' from by
          rintro v (rfl | rfl)
          · exact q1
          · exact q2)
        have HQ := Bx.mk (show ∀ x, Keep NoB w5 x → x.cell? ⟨w4.heap.size, 0, none⟩ = some (.slice so sl sc) ∧ x.cell? ⟨w4.heap.size, 1, none⟩ = some (.slice so2 0 sc2) ∧ x.cell? ⟨w4.heap.size, 2, none⟩ = some (.slice so3 sl3 sc3) ∧ x.cell? ⟨w1.heap.size + 1 + 1 + 1, 0, none⟩ = some (.slice oW n cW) ∧ x.cell? ⟨w1.heap.size + 1 + 1 + 1, 1, none⟩ = some (.slice none 0 0) ∧ x.cell? ⟨w1.heap.size + 1 + 1 + 1, 2, none⟩ = some (.slice (some ⟨b7, 0, none⟩) 1 1) from fun x kx => by
          have h1 := kx.heap hb5 (NoB.not _)
          have h2 := kx.heap hB5.bR (NoB.not _)
          exact ⟨(cellz h1 0 _ rfl).1, (cellz h1 1 _ rfl).1, (cellz h1 2 _ rfl).1, (cellz h2 0 _ rfl).1, (cellz h2 1 _ rfl).1, (cellz h2 2 _ rfl).1⟩)
        have HW5 := Bx.mk (And.intro hw5 H9)
        clear hpost hrE hrA k4 y0 y1 y2 y3 y4 HI hw5 k5 hb5 hB5 hkey H9 hWn kstep q1 q2 hrW HB
        go_wp2_with fail
        rw [← HW5.out.1]
        have hK0 : Keep NoB w5 w5.drew := Keep.drew _ _
        obtain ⟨c0, c1, c2, c3, c4, c5⟩ := HQ.out _ hK0
        go_region_held3 (fun x => Keep NoB w5 x ∧ x.cell? ⟨w4.heap.size, 0, none⟩ = some (.slice so sl sc) ∧ x.cell? ⟨w4.heap.size, 1, none⟩ = some (.slice so2 0 sc2) ∧ x.cell? ⟨w4.heap.size, 2, none⟩ = some (.slice so3 sl3 sc3) ∧ x.cell? ⟨w1.heap.size + 1 + 1 + 1, 0, none⟩ = some (.slice oW n cW) ∧ x.cell? ⟨w1.heap.size + 1 + 1 + 1, 1, none⟩ = some (.slice none 0 0) ∧ x.cell? ⟨w1.heap.size + 1 + 1 + 1, 2, none⟩ = some (.slice (some ⟨b7, 0, none⟩) 1 1))
          (with_reducible (first
            | exact ⟨kwA, HQ.out _ kwA⟩
            | exact ⟨hK0, HQ.out _ hK0⟩
            | assumption))
          ((go_at_call 10
            refine (HK.out _ (by first | exact .inl rfl | exact .inr rfl) _ (by go_split_ands; assumption)).mono ?_
            rintro e w6 ⟨rfl, k6⟩
            have kwA : Keep NoB w5 w6 := Keep.then (by go_split_ands; assumption) k6))
        have KA := Bx.mk kwA
        clear kwA k6 hK0 c0 c1 c2 c3 c4 c5
        go_wp2_with fail
        go_ret
        exact ⟨rfl, HW5.out.2.then KA.out⟩
end Go.Proofs.YtedgonoeeeiilaaGreatDoor
