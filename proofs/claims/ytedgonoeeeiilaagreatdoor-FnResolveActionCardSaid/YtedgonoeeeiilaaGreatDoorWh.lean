/- The walk of the function that resolves enumerations. -/
import Derived.Test.YtedgonoeeeiilaaGreatDoorOut
namespace Go.Proofs.YtedgonoeeeiilaaGreatDoor
open Go.RowKit

theorem infoUID : (Tryz.prog.info? 96).map (fun i => (i.zero, i.size, i.bytes)) = some (some (.agg #[.string ⟨#[]⟩, .string ⟨#[]⟩]), 2, 32) := by kernel_rfl

/-- The inner loop: the first j values stand in the new row. -/
def EnumRow (w' w2 : World) (an : Option Nat) (q : Str) (vals : List Str) (j : Nat) : Prop :=
  Keep NoB w' w2 ∧ w'.heap.size + 2 ≤ w2.heap.size ∧ w2.cell? ⟨w'.heap.size, 0, none⟩ = some (.map an) ∧ ∃ cur, w2.heap[w'.heap.size + 1]? = some (.cells cur 96 (0, 0)) ∧ cur.size = vals.length * 2 ∧
    ∀ i, i < j → cur[i * 2]? = some (.string q) ∧ cur[i * 2 + 1]? = some (.string (vals.getD i ⟨#[]⟩))

theorem EnumRow.step {w' wr w3 : World} {an : Option Nat} {q : Str} {vals : List Str} {j : Nat} (h : EnumRow w' wr an q vals j) (k3 : Keep NoB wr w3) (hj : j < vals.length) {vj : Str} (hvj : vj = vals.getD j ⟨#[]⟩) :
    EnumRow w' ((w3.setCell ⟨w'.heap.size + 1, j * 2, none⟩ (.string q)).setCell ⟨w'.heap.size + 1, j * 2 + 1, none⟩ (.string vj)) an q vals (j + 1) := by
  obtain ⟨k2, hs2, hc0, cur, hcur, hcs, hdone⟩ := h
  have hcur3 := k3.heap hcur (NoB.not _)
  have hA := setCell_cells hcur3 (j * 2) (.string q)
  have hB := setCell_cells hA (j * 2 + 1) (.string vj)
  have ka := Keep.setCell (M := (· = w'.heap.size + 1)) w3 ⟨w'.heap.size + 1, j * 2, none⟩ (.string q) (fun _ => rfl)
  have kb := Keep.setCell (M := (· = w'.heap.size + 1)) (w3.setCell ⟨w'.heap.size + 1, j * 2, none⟩ (.string q)) ⟨w'.heap.size + 1, j * 2 + 1, none⟩ (.string vj) (fun _ => rfl)
  have kab := ka.trans kb (M'' := (· = w'.heap.size + 1)) (fun _ _ h => h) (fun _ _ h => h)
  refine ⟨(k2.then k3).trans kab (fun _ _ h => h) (fun i hi h => by omega), ?_, kab.cell (k3.cell hc0 (NoB.not _)) (fun h => by simp at h), _, hB, by simpa using hcs, fun i hi => ?_⟩
  · have := kab.size; have := k3.size; omega
  · by_cases he : i = j
    · subst he
      subst hvj
      constructor
      · rw [Array.getElem?_setIfInBounds_ne (by omega), Array.getElem?_setIfInBounds_self_of_lt (by omega)]
      · rw [Array.getElem?_setIfInBounds_self_of_lt (by simp; omega)]
    · obtain ⟨h1, h2⟩ := hdone i (by omega)
      constructor
      · rw [Array.getElem?_setIfInBounds_ne (by omega), Array.getElem?_setIfInBounds_ne (by omega)]; exact h1
      · rw [Array.getElem?_setIfInBounds_ne (by omega), Array.getElem?_setIfInBounds_ne (by omega)]; exact h2

set_option maxRecDepth 100000 in
set_option maxHeartbeats 4000000 in
theorem resolveEnums_c (w : World) (MR : Nat → Prop) (b0 bo oN : Nat) (v0 : Value) (hv0 : v0 = .pointer (some ⟨b0, 0, none⟩)) (ns : Str) (hns : ns.size ≤ 1000000) (mn : Option Nat) (ln : List (Str × Value)) (hn : KMapO Value.string w mn ln) (hmn : ∀ i, mn = some i → ¬ MR i) (hMo : MR oN) (hMR : ∀ i, MR i → i < w.heap.size)
    (EN : Str → List Str) (hEN : ∀ p ∈ ln, p.1.size ≤ 1000000 ∧ AEnumIs w MR (EN p.1) p.2 ∧ (EN p.1).length ≤ 1000000) (c2 : w.cell? ⟨bo, 2, none⟩ = some (.map (some oN))) (R0 : List (Str × (Str × List Str))) (hR0 : ∃ lv, KMap Value.string w oN lv ∧ MapRel (REnumIs w MR) R0 lv) :
    Calls Tryz.prog 55 #[v0, .string ns, .map mn, .pointer (some ⟨bo, 0, none⟩)] w fun e w' => e = .returned (.tuple #[]) ∧ Keep (· = oN) w w' ∧
      ∃ R', Added (qual ns) (fun n => (qual ns n, EN n)) (ln.map (·.1)) R0 R' ∧ ∃ lv, KMap Value.string w' oN lv ∧ MapRel (REnumIs w' MR) R' lv := by
  subst hv0
  have hbo : bo ≠ oN := by obtain ⟨lv, hm, _⟩ := hR0; exact cell_ne_map c2 hm
  obtain ⟨o1, hrun, hit⟩ := hn.range (w := w) Tryz.underlying129
  obtain ⟨iU, hiU, hzU, hsU, hbU⟩ := info_parts infoUID
  have HU := Lib.hid (And.intro hiU (And.intro hzU (And.intro hsU hbU)))
  have HI := Lib.hid hit
  have HA := Lib.hid (And.intro hn (And.intro hmn (And.intro hMo (And.intro hEN (And.intro c2 (And.intro hR0 (And.intro hbo hMR)))))))
  clear hit hn hmn hMo hEN c2 hR0 hbo hMR hiU hzU hsU hbU
  go_enter Tryz.func55, Tryz.ntmps55
  go_wp2_with fail
  clear hrun
  go_loopg [] ln.length (fun k wr => ∃ left R', left.length = k ∧ Out Value.string REnumIs MR w wr mn w.heap.size oN ln (qual ns) (fun n => (qual ns n, EN n)) R0 left R')
  case atStart =>
    obtain ⟨hn, hmn, hMo, hEN, c2, hR0, hbo, hMR⟩ := HA.out
    exact ⟨ln, R0, rfl, Out.start REnumIs.keep HI.out (fun i hi e => hmn i hi (e ▸ hMo)) hR0⟩
  case round =>
    obtain ⟨left, R', e1, hF⟩ := hrel
    have HF := Lib.hid (And.intro e1 hF)
    clear HI e1 hF
    rcases HF.out.2.it.next (P := Tryz.prog) (fun h => by cases h; rfl) 0 with ⟨rfl, hnext⟩ | ⟨p, lf, w', hp, hnext, hentry, hit', hk', hsz'⟩
    · go_wp2_with fail
      go_end0
      obtain ⟨hn, hmn, hMo, hEN, c2, hR0, hbo, hMR⟩ := HA.out
      obtain ⟨h1, h2⟩ := HF.out.2.over REnumIs.keep
      exact ⟨rfl, HF.out.2.keep, R', h1, h2⟩
    · obtain ⟨hn, hmn, hMo, hEN, c2, hR0, hbo, hMR⟩ := HA.out
      have hpm := HF.out.2.mem hp
      obtain ⟨pk, pv⟩ := p
      obtain ⟨hps, hpe, hpl⟩ : pk.size ≤ _ ∧ AEnumIs w MR (EN pk) pv ∧ _ := hEN (pk, pv) hpm
      dsimp only at hnext hentry
      have kw : Keep (· = oN) w w' := HF.out.2.keep2 hk' (Keep.refl NoB w')
      obtain ⟨an, sv, hv, hsl⟩ := AEnumIs.keep.k (M' := fun i => MR i) kw (fun i _ e => e ▸ hMo) (fun _ _ h => h) hpe
      obtain rfl : pv = .agg #[.map an, sv] := hv
      obtain ⟨ov, c, rfl, hsl⟩ := hsl
      obtain ⟨n, hne⟩ : ∃ n, n = (EN pk).length := ⟨_, rfl⟩
      rw [← hne] at hnext hentry hp hsl hpl
      have c2' := kw.cell c2 hbo
      have hmk := run_makeSlice (P := Tryz.prog) (w := w'.alloc (.cells #[.map an, .slice ov n c] 190)) 89 96 iU _ Tryz.underlying89 HU.out.1 HU.out.2.1 .i64 .i64 (n : Int) (n : Int) (by omega) (by omega) (by rw [HU.out.2.2.1]; omega) (by rw [HU.out.2.2.2]; omega) (by omega)
      have HP := Lib.hid (And.intro hp (And.intro hit' (And.intro hk' (And.intro hpm (And.intro hne (And.intro hsl (And.intro hsz' (And.intro kw c2'))))))))
      clear hp hit' hk' hpm hne hsl hsz' kw c2' hn hmn hMo hEN c2 hR0 hbo hMR hpe
      rw [HU.out.2.2.1] at hmk
      go_wp2_with (go_at_call 77; refine (qualEnt_c _ _ _ hns hps).mono ?_; rintro e w' ⟨rfl, rfl⟩)
      clear hmk hentry hnext
      go_loopg [31] n (fun k i w2 => ∃ j : Nat, j + k = n ∧ i = .int .i64 j ∧ EnumRow w' w2 an (qual ns pk) (EN pk) j)
      case atStart =>
        obtain ⟨hp, hit', hk', hpm, hne, hsl, hsz', kw, c2'⟩ := HP.out
        refine ⟨0, by omega, rfl, (Keep.alloc _ _ NoB).then (Keep.alloc _ _ NoB), by simp, by simp, _, by have h := (MapKept.heap_alloc (w'.alloc (.cells #[.map an, .slice ov n c] 190)) (.cells (madeCells #[.string ⟨#[]⟩, .string ⟨#[]⟩] (n * 2)) 96)).1; rw [World.size_alloc] at h; exact h, ?_, fun i hi => by omega⟩
        rw [size_madeCells, hne]
      case round =>
        obtain ⟨j, hj, rfl, hrow⟩ := hrel
        have HR := Lib.hid hrow
        clear hrow
        by_cases hlt : j < n
        · obtain ⟨hp, hit', hk', hpm, hne, hsl, hsz', kw, c2'⟩ := HP.out
          obtain ⟨k2, hs2, hc0, _⟩ := HR.out
          rcases hsl with h0 | ⟨bv, offv, rfl, hMv, hcell⟩
          · omega
          have hcv := (hcell j hlt).2.keep k2 (NoB.not _) 0 _ rfl
          simp only [Nat.mul_one, Nat.add_zero] at hcv
          obtain ⟨vj, hvj⟩ : ∃ vj, vj = (EN pk).getD j ⟨#[]⟩ := ⟨_, rfl⟩
          rw [← hvj] at hcv
          have HV := Lib.hid hvj
          clear hvj
          clear hp hit' hk' hpm hne hcell hsz' kw c2' k2 hs2 hc0
          go_wp2_with fail
          refine (newUID_c _ _ _).mono ?_
          rintro e w3 ⟨rfl, k3⟩
          obtain ⟨k2, hs2, hc0, cur, hcur, hcs, hdone⟩ := HR.out
          have hcur3 := k3.heap hcur (NoB.not _)
          have hcs' : cur.size = n * 2 := by rw [hcs, HP.out.2.2.2.2.1]
          obtain ⟨x0, hx0⟩ : ∃ x0, w3.cell? ⟨w'.heap.size + 1, j * 2, none⟩ = some x0 := ⟨_, by rw [cell_cells hcur3]; exact Array.getElem?_eq_getElem (by omega)⟩
          obtain ⟨x1, hx1⟩ : ∃ x1, w3.cell? ⟨w'.heap.size + 1, j * 2 + 1, none⟩ = some x1 := ⟨_, by rw [cell_cells hcur3]; exact Array.getElem?_eq_getElem (by omega)⟩
          have hf0 := frozen_cells hcur3 (j * 2)
          have hf1 := frozen_cells hcur3 (j * 2 + 1)
          have HK3 := Lib.hid (And.intro k3 (And.intro hcur3 hcs'))
          clear hcv k2 hs2 hc0 hcur hcs hdone k3 hcur3 hcs'
          go_wp2_with fail
          clear hx0 hx1 hf0 hf1
          go_roundg (gk - 1)
          case measure => omega
          case rel =>
            exact ⟨j + 1, by omega, by go_num, HR.out.step HK3.out.1 (by have := HP.out.2.2.2.2.1; omega) HV.out⟩
        · have hjn : j = n := by omega
          subst hjn
          have HJ := Lib.hid hj
          clear hj hlt
          go_wp2_with fail
          refine still_tail 10 (by kernel_rfl) (by kernel_rfl) (fun w2 hw2 => ?_)
          obtain ⟨hp, hit', hk', hpm, hne, hsl, hsz', kw, c2'⟩ := HP.out
          obtain ⟨k2, hs2, hc0, cur, hcur, hcs, hdone⟩ := HR.out
          have kd : Keep NoB wr w2 := hw2 ▸ Keep.drew _ _
          have ka := k2.then kd
          have c2 := ka.cell c2' (NoB.not _)
          have c0 := kd.cell hc0 (NoB.not _)
          obtain ⟨lv, hm, hr⟩ := HF.out.2.map' REnumIs.keep hk' ka
          obtain ⟨ob, hupd, hm3⟩ := hm.update (strKey Tryz.underlying67) Tryz.underlying81 (qual ns pk) (.agg #[.string (qual ns pk), .map an, .slice (some ⟨w'.heap.size + 1, 0, none⟩) j j])
          have hcur2 := kd.heap hcur (NoB.not _)
          have HE := Lib.hid (And.intro ka (And.intro hm (And.intro hr (And.intro hm3 (And.intro hcur2 (And.intro hdone (And.intro hne hcs)))))))
          clear hw2 hp hit' hk' hpm hsl hsz' kw c2' k2 hs2 hc0 hcur hdone kd ka hm hr hm3 hcur2 hne hcs
          simp only [List.take_succ_cons, List.take_zero, List.drop_succ_cons, List.drop_zero]
          repeat still_step
          refine wpStill_nil ?_
          go_wp2_with fail
          go_roundg lf.length
          case measure =>
            have h1 := HP.out.1.length_eq
            have h2 := HF.out.1
            rw [List.length_cons] at h1; omega
          case rel =>
            obtain ⟨ka, hm, hr, hm3, hcur2, hdone, hne, hcs⟩ := HE.out
            obtain ⟨hp, hit', hk', hpm, _⟩ := HP.out
            refine ⟨lf, _, rfl, HF.out.2.step REnumIs.keep (fun h => qual_inj h) hp hit' hk' ka hm hr (v := .agg #[.string (qual ns pk), .map an, .slice (some ⟨w'.heap.size + 1, 0, none⟩) j j]) ⟨an, _, rfl, some ⟨w'.heap.size + 1, 0, none⟩, j, by rw [hne], .inr ⟨_, 0, rfl, fun h => ?_, fun i hi => ⟨rfl, fun q v hq => ?_⟩⟩⟩ HA.out.2.2.1 hm3⟩
            · rcases h with h | h
              · have := HA.out.2.2.2.2.2.2.2 _ h
                have := HP.out.2.2.2.2.2.2.2.1.size
                omega
              · have := HF.out.2.le
                have := hk'.size
                have := HF.out.2.it.lt
                omega
            · obtain ⟨h1, h2⟩ := hdone i (by rw [hne]; exact hi)
              rw [cell_cells hcur2, Nat.zero_add]
              rcases q with _ | _ | q
              · cases hq; exact h1
              · cases hq; exact h2
              · cases hq
end Go.Proofs.YtedgonoeeeiilaaGreatDoor
