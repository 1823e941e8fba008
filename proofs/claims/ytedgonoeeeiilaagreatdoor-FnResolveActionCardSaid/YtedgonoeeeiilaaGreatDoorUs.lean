/- The walks of sets of identifiers: types.NewEntityUIDSet. -/
import Derived.Test.YtedgonoeeeiilaaGreatDoorAcn
import Derived.BigRegion
import Derived.StillTailTactics
import Derived.Deep.RegionHeld3
import Derived.Deep.AppendLies
namespace Go.Proofs.YtedgonoeeeiilaaGreatDoor
open Go.RowKit

theorem twoStr_UID : TwoStr Tryz.prog 96 :=
  twoStr_of Tryz.underlying96 Tryz.underlying67 Tryz.underlying94 (by decide) (by decide) (by kernel_rfl) (fun _ _ _ => by kernel_rfl) (fun _ _ _ => by kernel_rfl)
theorem kput_mem {κ α : Type} [DecidableEq κ] {l : List (κ × α)} {k x : κ} {v : α} : x ∈ (kput l k v).map (·.1) ↔ x = k ∨ x ∈ l.map (·.1) := by
  rw [kput_keys]
  split
  · rename_i h
    refine ⟨.inr, fun hx => ?_⟩
    rcases hx with rfl | hx
    · obtain ⟨p, hp, e⟩ := List.any_eq_true.1 h
      exact List.mem_map.2 ⟨p, hp, of_decide_eq_true e⟩
    · exact hx
  · simp [or_comm]
theorem kput_val {κ α : Type} [DecidableEq κ] {l : List (κ × α)} {k : κ} {v : α} (h : ∀ p ∈ l, p.2 = v) : ∀ p ∈ kput l k v, p.2 = v := by
  intro p hp
  unfold kput at hp
  split at hp
  · obtain ⟨q, hq, rfl⟩ := List.mem_map.1 hp
    split
    · rfl
    · exact h q hq
  · rcases List.mem_append.1 hp with hp | hp
    · exact h p hp
    · rw [List.mem_singleton.1 hp]
theorem kU : KeyRun Tryz.prog 96 encU := uidKey twoStr_UID

set_option maxRecDepth 100000 in
set_option maxHeartbeats 4000000 in
theorem msAdd_c (w : World) (B m : Nat) (l : List (Uid × Value)) (u : Uid) (hl : ∀ p ∈ l, p.2 = .agg #[]) (hB : w.heap[B]? = some (.cells #[.map (some m)] 167 (0, 0))) (hm : KMap encU w m l) :
    Calls Tryz.prog 148 #[.pointer (some ⟨B, 0, none⟩), .agg #[.string u.1, .string u.2]] w fun e w' => (∃ b, e = .returned (.bool b)) ∧ (∃ l', KMap encU w' m l' ∧ (∀ p ∈ l', p.2 = .agg #[]) ∧ ∀ x, x ∈ l'.map (·.1) ↔ x = u ∨ x ∈ l.map (·.1)) ∧ Keep (· = m) w w' := by
  have hg : (kget l u).getD (.agg #[]) = .agg #[] := by
    cases hk : kget l u with
    | none => rfl
    | some v => exact hl _ (kget_some hk)
  obtain ⟨w1, hw1⟩ : ∃ w1, w1 = w.alloc (.cells #[.string u.1, .string u.2] 96) := ⟨_, rfl⟩
  have k1 : Keep NoB w w1 := hw1 ▸ Keep.alloc _ _ _
  have hb1 : w1.heap[w.heap.size]? = some (.cells #[.string u.1, .string u.2] 96 (0, 0)) := hw1 ▸ (MapKept.heap_alloc _ _).1
  have c0 : w1.cell? ⟨B, 0, none⟩ = some (.map (some m)) := k1.cell (by rw [cell_cells hB]; rfl) (NoB.not _)
  have d0 : w1.cell? ⟨w.heap.size, 0, none⟩ = some (.string u.1) := by rw [cell_cells hb1]; rfl
  have d1 : w1.cell? ⟨w.heap.size, 1, none⟩ = some (.string u.2) := by rw [cell_cells hb1]; rfl
  have hm1 := hm.keep k1 (NoB.not _)
  obtain ⟨ob, hob⟩ : ∃ ob : Bool, ob = (kget l u).isSome := ⟨_, rfl⟩
  have hlk : (Instr.lookup 101 (.map (some m)) (.agg #[.string u.1, .string u.2]) true).run Tryz.prog w1 = .ok (.tuple #[.agg #[], .bool ob]) w1 := by
    rw [hob]; conv => rhs; rw [← hg]
    exact hm1.lookup kU Tryz.underlying101 (z := .agg #[]) (by kernel_rfl) u true
  obtain ⟨o, hup, hm2⟩ := hm1.update kU Tryz.underlying101 u (.agg #[])
  have hup2 : (Instr.mapUpdate 101 (.map (some m)) (.agg #[.string u.1, .string u.2]) (.agg #[])).run Tryz.prog w1 = .ok () (ChangeMaps.setBlock w1 m o) := hup
  have HA := Lib.hid (And.intro hm (And.intro hm1 (And.intro hm2 (And.intro k1 hob))))
  clear hB hm hm1 hm2 hb1 k1 hob
  have HW := Lib.hid hw1
  have HCD := Lib.hid (And.intro c0 (And.intro d0 d1))
  go_enter Tryz.func148, Tryz.ntmps148
  go_upto_region 1 with fail
  rw [← HW.out]
  clear hw1 hup
  have hnil : (binOp .eql 101 (.map (some m)) (.map none)).run Tryz.prog w1 = .ok (.bool false) w1 := run_eql_map_nil _ _ _ _ (some m) Tryz.underlying101
  go_upto_region 3 with fail
  clear hnil c0 d0 d1 hlk hup2
  have HX := Lib.hid (show ∀ x, Keep NoB w1 x → x.cell? ⟨B, 0, none⟩ = some (.map (some m)) ∧ x.cell? ⟨w.heap.size, 0, none⟩ = some (.string u.1) ∧ x.cell? ⟨w.heap.size, 1, none⟩ = some (.string u.2) ∧ (Instr.lookup 101 (.map (some m)) (.agg #[.string u.1, .string u.2]) true).run Tryz.prog x = .ok (.tuple #[.agg #[], .bool ob]) x from fun x kx => by
    obtain ⟨c0, d0, d1⟩ := HCD.out
    refine ⟨kx.cell c0 (NoB.not _), kx.cell d0 (NoB.not _), kx.cell d1 (NoB.not _), ?_⟩
    rw [HA.out.2.2.2.2]; conv => rhs; rw [← hg]
    exact (HA.out.2.1.keep kx (NoB.not _)).lookup kU Tryz.underlying101 (z := .agg #[]) (by kernel_rfl) u true)
  have hkd : Keep NoB w1 w1.drew := Keep.drew _ _
  obtain ⟨e0, e1, e2, e3⟩ := HX.out _ hkd
  go_region_held3 (fun x => x.cell? ⟨B, 0, none⟩ = some (.map (some m)) ∧ x.cell? ⟨w.heap.size, 0, none⟩ = some (.string u.1) ∧ x.cell? ⟨w.heap.size, 1, none⟩ = some (.string u.2) ∧ (Instr.lookup 101 (.map (some m)) (.agg #[.string u.1, .string u.2]) true).run Tryz.prog x = .ok (.tuple #[.agg #[], .bool ob]) x)
    (first | exact ⟨e0, e1, e2, e3⟩ | exact HX.out _ (hkd.then (Keep.alloc _ _ _)) | assumption)
    (fail)
  all_goals
    clear e0 e1 e2 e3 hkd hg
    obtain ⟨w2, hw2⟩ : ∃ x, x = (w1.alloc (.cells #[] 156)).drew := ⟨_, rfl⟩
    have k2 : Keep NoB w1 w2 := hw2 ▸ (Keep.alloc w1 _ NoB).then (Keep.drew _ _)
    rw [← hw2]
    have H2 := Lib.hid k2
    clear hw2 k2
    cases ob
    · obtain ⟨e0, e1, e2, _⟩ := HX.out _ H2.out
      obtain ⟨q0, q1, q2, _⟩ := HX.out _ (H2.out.then (Keep.drew _ _))
      obtain ⟨o2, hup2, hm3⟩ := (HA.out.2.1.keep (H2.out.then (Keep.drew _ _)) (NoB.not _)).update kU Tryz.underlying101 u (.agg #[])
      unfold encU at hup2
      have HU := Lib.hid hm3
      clear hm3
      go_upto_region 6 with fail
      go_region
      all_goals
        go_wp2_with fail
        go_ret
        exact ⟨⟨_, rfl⟩, ⟨_, HU.out, kput_val hl, fun x => kput_mem⟩, ((HA.out.2.2.2.1.then (H2.out.then (Keep.drew _ _))).mono (fun _ _ h => h.elim)).trans (Keep.setBlock _ _ _ (fun _ => rfl)) (fun _ _ h => h) (fun _ _ h => h.symm)⟩
    · go_wp2_with fail
      go_ret
      exact ⟨⟨_, rfl⟩, ⟨l, HA.out.1.keep (HA.out.2.2.2.1.then H2.out) (NoB.not _), hl, fun x => ⟨.inr, fun h => by
        rcases h with rfl | h
        · obtain ⟨v, hv⟩ := Option.isSome_iff_exists.1 HA.out.2.2.2.2.symm
          exact List.mem_map.2 ⟨_, kget_some hv, rfl⟩
        · exact h⟩⟩, (HA.out.2.2.2.1.then H2.out).mono fun _ _ h => h.elim⟩
set_option maxRecDepth 100000 in
set_option maxHeartbeats 4000000 in
theorem msMake_c (w : World) (b n : Nat) (c0 : w.cell? ⟨b, 0, none⟩ = some (.int .i64 n)) :
    Calls Tryz.prog 147 #[.slice (some ⟨b, 0, none⟩) 1 1] w fun e w' => (∃ B m, e = .returned (.pointer (some ⟨B, 0, none⟩)) ∧ w.heap.size ≤ B ∧ w.heap.size ≤ m ∧ w'.heap[B]? = some (.cells #[.map (some m)] 167 (0, 0)) ∧ KMap encU w' m []) ∧ Keep NoB w w' := by
  have hmm : (Instr.makeMap 101 (some (.int .i64 n))).run Tryz.prog w = .ok (.map (some w.heap.size)) (w.alloc (.map #[] 0)) := run_makeMap_hint Tryz.underlying101 (n : Int) w
  go_enter Tryz.func147, Tryz.ntmps147
  go_wp2_with fail
  go_ret
  have hm := KMap.made (enc := encU) w
  have hb := (MapKept.heap_alloc (w.alloc (.map #[] 0)) (.cells #[.map (some w.heap.size)] 167)).1
  rw [World.size_alloc] at hb
  exact ⟨⟨_, _, rfl, by omega, Nat.le_refl _, hb, hm.keep (Keep.alloc _ _ NoB) (NoB.not _)⟩, (Keep.alloc w _ NoB).then (Keep.alloc _ _ _)⟩
set_option maxRecDepth 100000 in
set_option maxHeartbeats 8000000 in
theorem msFrom_c (w : World) (M : Nat → Prop) (us : List Uid) (ov : Option Addr) (c : Nat) (hl : us.length ≤ 1000000) (h : UidsAt w M us (.slice ov us.length c)) :
    Calls Tryz.prog 138 #[.slice ov us.length c] w fun e w' => (∃ B m l, e = .returned (.pointer (some ⟨B, 0, none⟩)) ∧ w.heap.size ≤ B ∧ w.heap.size ≤ m ∧ w'.heap[B]? = some (.cells #[.map (some m)] 167 (0, 0)) ∧ KMap encU w' m l ∧ (∀ p ∈ l, p.2 = .agg #[]) ∧ ∀ x, x ∈ l.map (·.1) ↔ x ∈ us) ∧ Keep NoB w w' := by
  obtain ⟨n, hn⟩ : ∃ n, n = us.length := ⟨_, rfl⟩
  rw [← hn] at h ⊢
  have HA := Lib.hid (And.intro h (And.intro hl hn))
  rw [← hn] at hl
  clear h hn
  go_enter Tryz.func138, Tryz.ntmps138
  go_wp2_with fail
  refine (msMake_c (w.alloc (.cells #[.int .i64 n] 3)) w.heap.size n (by rw [cell_cells (MapKept.heap_alloc w _).1]; rfl)).mono ?_
  rintro e w2 ⟨⟨B, m, rfl, hB, hm, hbB, hmm⟩, k2⟩
  rw [World.size_alloc] at hB hm
  have k02 : Keep NoB w w2 := (Keep.alloc w _ NoB).then k2
  have hne : B ≠ m := by
    intro e
    subst e
    obtain ⟨es, ck, hb, _⟩ := hmm
    rw [hb] at hbB; cases hbB
  have H2 := Lib.hid (And.intro k02 (And.intro hbB (And.intro hmm (And.intro hne (And.intro hB hm)))))
  clear k2 k02 hbB hmm hne hB hm
  go_wp2_with fail
  go_loopg [12] n (fun k i wr => ∃ (j : Nat) (l : List (Uid × Value)), j + k = n ∧ i = .int .i64 j ∧ Keep (· = m) w2 wr ∧ KMap encU wr m l ∧ (∀ p ∈ l, p.2 = .agg #[]) ∧ ∀ x, x ∈ l.map (·.1) ↔ x ∈ us.take j)
  case atStart => exact ⟨0, [], by omega, rfl, Keep.refl _ _, H2.out.2.2.1, by simp, by simp⟩
  case round =>
    obtain ⟨j, l, hj, rfl, hrow⟩ := hrel
    have HR := Lib.hid hrow
    clear hrow
    by_cases hlt : j < n
    · obtain ⟨h, hL, hn⟩ := HA.out
      have hk : Keep NoB w wr := H2.out.1.trans HR.out.1 (fun _ _ h => h) (fun i hi e => by have := H2.out.2.2.2.2.2; omega)
      obtain ⟨ov', c', hov, h⟩ := h
      obtain ⟨rfl, hz, rfl⟩ : ov = ov' ∧ n = us.length ∧ c = c' := by simpa using hov
      rcases h with h0 | ⟨b, off, rfl, hM, hcell⟩
      · omega
      have hjl : j < us.length := by omega
      obtain ⟨uj, huj⟩ : ∃ uj, uj = us[j] := ⟨_, rfl⟩
      have hgd : us.getD j (⟨#[]⟩, ⟨#[]⟩) = uj := by rw [huj, List.getD_eq_getElem?_getD, List.getElem?_eq_getElem hjl]; rfl
      have hc := (hcell j hjl).2.keep hk (NoB.not _)
      dsimp only at hc
      rw [hgd] at hc
      have c0 := hc 0 _ rfl
      have c1 := hc 1 _ rfl
      rw [Nat.add_zero] at c0
      have HQ := Lib.hid (And.intro hk (And.intro huj hgd))
      clear hL hn hk hov hcell hc huj hgd hz
      go_wp2_with fail
      have ka : Keep NoB wr (wr.alloc (.cells #[.string uj.1, .string uj.2] 96)) := Keep.alloc _ _ _
      have hbw : wr.heap[B]? = some (.cells #[.map (some m)] 167 (0, 0)) := HR.out.1.heap H2.out.2.1 H2.out.2.2.2.1
      refine (msAdd_c _ B m l uj HR.out.2.2.1 (ka.heap hbw (NoB.not _)) (HR.out.2.1.keep ka (NoB.not _))).mono ?_
      rintro e w4 ⟨⟨bb, rfl⟩, ⟨l', hm4, hv4, hk4⟩, k4⟩
      have H4 := Lib.hid (And.intro hm4 (And.intro hv4 (And.intro hk4 (ka.first k4))))
      clear ka hbw hm4 hv4 hk4 k4 c0 c1
      go_wp2_with fail
      go_roundg (gk - 1)
      case measure => omega
      case rel =>
        obtain ⟨hm4, hv4, hk4, k4⟩ := H4.out
        refine ⟨j + 1, l', by omega, by go_num, HR.out.1.trans k4 (fun _ _ h => h) (fun _ _ h => h), hm4, hv4, fun x => ?_⟩
        rw [hk4 x, HR.out.2.2.2 x, List.take_succ_eq_append_getElem hjl, ← HQ.out.2.1, List.mem_append, List.mem_singleton]
        exact or_comm
    · have hjn : j = n := by omega
      subst hjn
      have hl0 : us.take j = us := List.take_of_length_le (by have := HA.out.2.2; omega)
      have HL := Lib.hid hl0
      clear hl0
      go_wp2_with fail
      go_ret
      obtain ⟨k, hm, hv, hk⟩ := HR.out
      obtain ⟨k02, hbB, _, hne, hB, hM⟩ := H2.out
      refine ⟨⟨B, m, l, rfl, by omega, by omega, k.heap hbB hne, hm, hv, fun x => by rw [hk x, HL.out]⟩, k02.trans k (fun _ _ h => h) (fun i hi e => by omega)⟩
set_option maxRecDepth 100000 in
set_option maxHeartbeats 4000000 in
theorem newUIDSet_c (w : World) (M : Nat → Prop) (us : List Uid) (ov : Option Addr) (c : Nat) (hl : us.length ≤ 1000000) (h : UidsAt w M us (.slice ov us.length c)) :
    Calls Tryz.prog 88 #[.slice ov us.length c] w fun e w' => (∃ m l, e = .returned (.agg #[.map (some m)]) ∧ w.heap.size ≤ m ∧ KMap encU w' m l ∧ (∀ p ∈ l, p.2 = .agg #[]) ∧ ∀ x, x ∈ l.map (·.1) ↔ x ∈ us) ∧ Keep NoB w w' := by
  obtain ⟨n, hn⟩ : ∃ n, n = us.length := ⟨_, rfl⟩
  have HF := Lib.hid (show ∀ x, Keep NoB w x → Calls Tryz.prog 138 #[.slice ov n c] x fun e w' => (∃ B m l, e = .returned (.pointer (some ⟨B, 0, none⟩)) ∧ x.heap.size ≤ B ∧ x.heap.size ≤ m ∧ w'.heap[B]? = some (.cells #[.map (some m)] 167 (0, 0)) ∧ KMap encU w' m l ∧ (∀ p ∈ l, p.2 = .agg #[]) ∧ ∀ y, y ∈ l.map (·.1) ↔ y ∈ us) ∧ Keep NoB x w' from fun x kx => by
    rw [hn]; exact msFrom_c x M us ov c hl (UidsAt.keep.k kx (fun _ _ h => h.elim) (fun _ _ h => h) h))
  rw [← hn]
  clear h hn hl
  have HI := Lib.hid (show ∀ x, Keep NoB w x → Calls Tryz.prog 114 #[.slice ov n c] x fun e w' => (∃ m l, e = .returned (.agg #[.map (some m)]) ∧ x.heap.size ≤ m ∧ KMap encU w' m l ∧ (∀ p ∈ l, p.2 = .agg #[]) ∧ ∀ y, y ∈ l.map (·.1) ↔ y ∈ us) ∧ Keep NoB x w' from fun x kx => by
    have ka : Keep NoB x (x.alloc (.cells #[.map none] 103)) := Keep.alloc _ _ _
    have HX := Lib.hid (HF.out _ (kx.then ka))
    have HK := Lib.hid (And.intro ka (MapKept.heap_alloc x (.cells #[.map none] 103)).1)
    clear ka kx
    go_enter Tryz.func114, Tryz.ntmps114
    go_wp2_with fail
    refine HX.out.mono ?_
    rintro e w3 ⟨⟨B, m, l, rfl, hB, hm, hb, h1, h2, h3⟩, k3⟩
    have hr3 := k3.heap HK.out.2 (NoB.not _)
    have c0 : w3.cell? ⟨B, 0, none⟩ = some (.map (some m)) := by rw [cell_cells hb]; rfl
    have r0 : w3.cell? ⟨x.heap.size, 0, none⟩ = some (.map none) := by rw [cell_cells hr3]; rfl
    have rf : w3.frozen? ⟨x.heap.size, 0, none⟩ = false := frozen_cells hr3 0
    rw [World.size_alloc] at hB hm
    have H3 := Lib.hid (And.intro k3 (And.intro hB (And.intro hm (And.intro hr3 (And.intro h1 (And.intro h2 h3))))))
    clear k3 hB hm hb h1 h2 h3 hr3
    go_wp2_with fail
    obtain ⟨k3, hB, hm, hr3, h1, h2, h3⟩ := H3.out
    have ks := Keep.setCell (M := (· = x.heap.size)) w3 ⟨x.heap.size, 0, none⟩ (.map (some m)) (fun _ => rfl)
    have hr4 : (w3.setCell ⟨x.heap.size, 0, none⟩ (.map (some m))).cell? ⟨x.heap.size, 0, none⟩ = some (.map (some m)) := by rw [cell_cells (setCell_cells hr3 0 (.map (some m)))]; rfl
    refine bodyPost_ret (v := .agg #[.map (some m)]) ?_ rfl ⟨⟨m, l, rfl, by omega, h1.keep ks (by omega), h2, h3⟩, (HK.out.1.then k3).trans ks (fun _ _ h => h) (fun i hi e => by omega)⟩
    simp [results, Tryz.results114, go_sem, hr4, Result.andThen])
  have ka : Keep NoB w (w.alloc (.cells #[.map none] 103)) := Keep.alloc _ _ _
  have HX := Lib.hid (HI.out _ ka)
  have HK := Lib.hid (And.intro ka (MapKept.heap_alloc w (.cells #[.map none] 103)).1)
  clear ka
  go_enter Tryz.func88, Tryz.ntmps88
  go_wp2_with fail
  refine HX.out.mono ?_
  rintro e w3 ⟨⟨m, l, rfl, hm, h1, h2, h3⟩, k3⟩
  have hr3 := k3.heap HK.out.2 (NoB.not _)
  have r0 : w3.cell? ⟨w.heap.size, 0, none⟩ = some (.map none) := by rw [cell_cells hr3]; rfl
  have rf : w3.frozen? ⟨w.heap.size, 0, none⟩ = false := frozen_cells hr3 0
  rw [World.size_alloc] at hm
  have H3 := Lib.hid (And.intro k3 (And.intro hm (And.intro hr3 (And.intro h1 (And.intro h2 h3)))))
  clear k3 hm h1 h2 h3 hr3
  go_wp2_with fail
  obtain ⟨k3, hm, hr3, h1, h2, h3⟩ := H3.out
  have ks := Keep.setCell (M := (· = w.heap.size)) w3 ⟨w.heap.size, 0, none⟩ (.map (some m)) (fun _ => rfl)
  have hr4 : (w3.setCell ⟨w.heap.size, 0, none⟩ (.map (some m))).cell? ⟨w.heap.size, 0, none⟩ = some (.map (some m)) := by rw [cell_cells (setCell_cells hr3 0 (.map (some m)))]; rfl
  refine bodyPost_ret (v := .agg #[.map (some m)]) ?_ rfl ⟨⟨m, l, rfl, by omega, h1.keep ks (by omega), h2, h3⟩, (HK.out.1.then k3).trans ks (fun _ _ h => h) (fun i hi e => by omega)⟩
  simp [results, Tryz.results88, go_sem, hr4, Result.andThen]
theorem set2 {w : World} {b : Nat} {T : TypeId} {a0 a1 : Value} (v0 v1 : Value) (h : w.heap[b]? = some (.cells #[a0, a1] T (0, 0))) :
    ((w.setCell ⟨b, 0, none⟩ v0).setCell ⟨b, 1, none⟩ v1).heap[b]? = some (.cells #[v0, v1] T (0, 0)) ∧ Keep (· = b) w ((w.setCell ⟨b, 0, none⟩ v0).setCell ⟨b, 1, none⟩ v1) :=
  ⟨setCell_cells (setCell_cells h 0 v0) 1 v1, (Keep.setCell (M := (· = b)) w ⟨b, 0, none⟩ v0 (fun _ => rfl)).trans (Keep.setCell (M := (· = b)) _ ⟨b, 1, none⟩ v1 (fun _ => rfl)) (fun _ _ h => h) (fun _ _ h => h)⟩
set_option maxRecDepth 100000 in
set_option maxHeartbeats 4000000 in
theorem parRef_c (w : World) (ns : Str) (u : Uid) (h1 : ns.size ≤ 1000000) :
    Calls Tryz.prog 87 #[.string ns, .agg #[.string u.1, .string u.2]] w fun e w' => e = .returned (.agg #[.string (parOf ns u).1, .string (parOf ns u).2]) ∧ Keep NoB w w' := by
  obtain ⟨w2, hw2⟩ : ∃ x, x = (w.alloc (.cells #[.string u.1, .string u.2] 232)).alloc (.cells #[.string ⟨#[]⟩, .string ⟨#[]⟩] 96) := ⟨_, rfl⟩
  have k2 : Keep NoB w w2 := hw2 ▸ (Keep.alloc w _ NoB).then (Keep.alloc _ _ NoB)
  have hb2 : w2.heap[w.heap.size + 1]? = some (.cells #[.string ⟨#[]⟩, .string ⟨#[]⟩] 96 (0, 0)) := by
    have h := (MapKept.heap_alloc (w.alloc (.cells #[.string u.1, .string u.2] 232)) (.cells #[.string ⟨#[]⟩, .string ⟨#[]⟩] 96)).1
    rw [World.size_alloc] at h
    rw [hw2]; exact h
  have hb1 : w2.heap[w.heap.size]? = some (.cells #[.string u.1, .string u.2] 232 (0, 0)) := by
    rw [hw2]; exact (Keep.alloc (w.alloc (.cells #[.string u.1, .string u.2] 232)) (.cells #[.string ⟨#[]⟩, .string ⟨#[]⟩] 96) NoB).heap (MapKept.heap_alloc w _).1 (NoB.not _)
  have HU := Lib.hid (show ∀ a i x, Keep NoB w2 x → Calls Tryz.prog 85 #[.string a, .string i] x fun e w' => e = .returned (.agg #[.string a, .string i]) ∧ (w'.cell? ⟨w.heap.size + 1, 0, none⟩ = some (.string ⟨#[]⟩) ∧ w'.cell? ⟨w.heap.size + 1, 1, none⟩ = some (.string ⟨#[]⟩) ∧ w'.frozen? ⟨w.heap.size + 1, 0, none⟩ = false ∧ w'.frozen? ⟨w.heap.size + 1, 1, none⟩ = false) ∧
      ∀ y, y = (w'.setCell ⟨w.heap.size + 1, 0, none⟩ (.string a)).setCell ⟨w.heap.size + 1, 1, none⟩ (.string i) → Keep NoB w y ∧ y.cell? ⟨w.heap.size + 1, 0, none⟩ = some (.string a) ∧ y.cell? ⟨w.heap.size + 1, 1, none⟩ = some (.string i) from fun a i x kx => by
    refine (newUID_c a i x).mono ?_
    rintro e w' ⟨rfl, k'⟩
    have h := (kx.then k').heap hb2 (NoB.not _)
    refine ⟨rfl, ⟨by rw [cell_cells h]; rfl, by rw [cell_cells h]; rfl, frozen_cells h 0, frozen_cells h 1⟩, fun y hy => ?_⟩
    obtain ⟨h1, h2⟩ := set2 (.string a) (.string i) h
    rw [hy]
    exact ⟨((k2.then kx).then k').trans h2 (fun _ _ h => h) (fun i hi e => by omega), by rw [cell_cells h1]; rfl, by rw [cell_cells h1]; rfl⟩)
  have d0 : w2.cell? ⟨w.heap.size, 0, none⟩ = some (.string u.1) := by rw [cell_cells hb1]; rfl
  have d1 : w2.cell? ⟨w.heap.size, 1, none⟩ = some (.string u.2) := by rw [cell_cells hb1]; rfl
  have HW := Lib.hid hw2
  clear hw2 k2 hb2 hb1
  obtain ⟨ut, ui⟩ := u
  dsimp only at d0 d1 HU HW ⊢
  by_cases hu : ut = ByteArray.empty
  · have hp : parOf ns (ut, ui) = (actionTy ns, ui) := if_pos hu
    rw [hp]
    subst hu
    clear hp
    go_enter Tryz.func87, Tryz.ntmps87
    go_upto_region 1 with fail
    rw [← HW.out]
    go_wp2_with (go_at_call 86; refine (qualAction_c _ _ h1).mono ?_; rintro e w' ⟨rfl, rfl⟩)
    refine (HU.out (actionTy ns) ui _ (Keep.refl _ _)).mono ?_
    rintro e w3 ⟨rfl, ⟨r0, r1, f0, f1⟩, hy⟩
    have HY := Lib.hid hy
    clear hy d0 d1
    go_wp2_with fail
    obtain ⟨k, e0, e1⟩ := HY.out _ rfl
    refine bodyPost_ret (v := .agg #[.string (actionTy ns), .string ui]) ?_ rfl ⟨rfl, k⟩
    simp [results, Tryz.results87, go_sem, e0, e1, Result.andThen]
  · have hp : parOf ns (ut, ui) = (ut, ui) := if_neg hu
    have h0 := ne_empty hu
    rw [hp]
    clear hp
    go_enter Tryz.func87, Tryz.ntmps87
    go_upto_region 1 with fail
    rw [← HW.out]
    go_wp2_with fail
    refine (HU.out ut ui _ (Keep.refl _ _)).mono ?_
    rintro e w3 ⟨rfl, ⟨r0, r1, f0, f1⟩, hy⟩
    have HY := Lib.hid hy
    clear hy d0 d1
    go_wp2_with fail
    obtain ⟨k, e0, e1⟩ := HY.out _ rfl
    refine bodyPost_ret (v := .agg #[.string ut, .string ui]) ?_ rfl ⟨rfl, k⟩
    simp [results, Tryz.results87, go_sem, e0, e1, Result.andThen]
end Go.Proofs.YtedgonoeeeiilaaGreatDoor
