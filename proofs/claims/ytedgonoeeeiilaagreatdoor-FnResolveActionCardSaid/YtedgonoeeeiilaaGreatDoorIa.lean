/- The walk of the function that turns a given action into one of the syntax tree. -/
import Derived.Test.YtedgonoeeeiilaaGreatDoorJIr
import Derived.Deep.RegionHeld3
import Derived.Deep.AppendLies
namespace Go.Proofs.YtedgonoeeeiilaaGreatDoor
open Go.RowKit

theorem infoParRef : (Tryz.prog.info? 232).map (fun i => (i.zero, i.size, i.bytes)) = some (some (.agg #[.string ⟨#[]⟩, .string ⟨#[]⟩]), 2, 32) := by kernel_rfl
theorem newParentRef_c (a b : Str) (w : World) :
    Calls Tryz.prog 70 #[.string a, .string b] w fun e w' => e = .returned (.agg #[.string a, .string b]) ∧ Keep NoB w w' := by
  go_enter Tryz.func70, Tryz.ntmps70
  go_wp2
  exact bodyPost_ret (v := .agg #[.string a, .string b]) (by simp [results, Tryz.results70, go_sem]) rfl ⟨rfl, Keep.alloc _ _ _⟩

/-- A given action: its groups, and to what it applies. -/
def IToIs (w : World) (M : Nat → Prop) (fl : Bool) (prs rss : Sl) (k : Int) (s : Str) (el al : Sl) : Option (List Str × List Str × Option ATy) → Prop
  | none => fl = false
  | some x => fl = true ∧ StrsAt w M x.1 (slV prs) ∧ StrsAt w M x.2.1 (slV rss) ∧ (∀ p ∈ x.1, p.size ≤ 1000000) ∧ (∀ p ∈ x.2.1, p.size ≤ 1000000) ∧ x.1.length ≤ 1000000 ∧ x.2.1.length ≤ 1000000 ∧
    (match x.2.2 with
      | none => k = 0
      | some t => k ≠ 0 ∧ ITyIs w M t (tyV k s el al))
structure IActIs (w : World) (M : Nat → Prop) (a : AAct) (ps : Sl) (fl : Bool) (prs rss : Sl) (k : Int) (s : Str) (el al : Sl) : Prop where
  pL : a.parents.length ≤ 1000000
  pz : ∀ p ∈ a.parents, p.1.size ≤ 1000000 ∧ p.2.size ≤ 1000000
  par : UidsAt w M a.parents (slV ps)
  app : IToIs w M fl prs rss k s el al a.app
def ActOut (w : World) (a : AAct) (en : Ending) (w' : World) : Prop :=
  ∃ (pv : Sl) (tp : Option Addr), en = .returned (.tuple #[.agg #[.map none, .slice pv.1 pv.2.1 pv.2.2, .pointer tp], .bool true]) ∧ AActIs w' (· < w.heap.size) a (.agg #[.map none, .slice pv.1 pv.2.1 pv.2.2, .pointer tp]) ∧ Keep NoB w w'
/-- The loop over the groups. -/
def GrpRow (wS w2 : World) (a2 : Nat) (ps : List Uid) (j : Nat) (sl : Value) : Prop :=
  Keep (· = a2) wS w2 ∧ w2.heap[a2]? = some (.cells #[.map none, sl, .pointer none] 194 (0, 0)) ∧ w2.ownsRow wS.heap.size 232 2 sl j (uidCells (ps.take j))
theorem ownsRow_shape {w : World} {base : Nat} {e : TypeId} {size : Nat} {v : Value} {n : Nat} {xs : List Value} (h : w.ownsRow base e size v n xs) : ∃ o c, v = .slice o n c := by
  rcases h.2 with ⟨rfl, h0⟩ | ⟨g, cap, cur, rfl, _⟩
  · exact ⟨none, 0, by rw [h0]⟩
  · exact ⟨_, _, rfl⟩
theorem act_set {w : World} {b : Nat} {v1 v2 : Value} {a0 a1 a2 : Value} {T : TypeId} (h : w.heap[b]? = some (.cells #[a0, a1, a2] T (0, 0))) :
    ∃ wz, wz = ((w.setCell ⟨b, 0, none⟩ (.map none)).setCell ⟨b, 1, none⟩ v1).setCell ⟨b, 2, none⟩ v2 ∧ Keep (· = b) w wz ∧ wz.cell? ⟨b, 0, none⟩ = some (.map none) ∧ wz.cell? ⟨b, 1, none⟩ = some v1 ∧ wz.cell? ⟨b, 2, none⟩ = some v2 := by
  have kst : ∀ (u : World) (i : Nat) (v : Value), Keep (· = b) u (u.setCell ⟨b, i, none⟩ v) := fun u i v => Keep.setCell _ _ _ (fun _ => rfl)
  have h0 : (w.setCell ⟨b, 0, none⟩ (.map none)).heap[b]? = some (.cells #[.map none, a1, a2] T (0, 0)) := setCell_cells h 0 _
  have h1 : ((w.setCell ⟨b, 0, none⟩ (.map none)).setCell ⟨b, 1, none⟩ v1).heap[b]? = some (.cells #[.map none, v1, a2] T (0, 0)) := setCell_cells h0 1 _
  have h2 : (((w.setCell ⟨b, 0, none⟩ (.map none)).setCell ⟨b, 1, none⟩ v1).setCell ⟨b, 2, none⟩ v2).heap[b]? = some (.cells #[.map none, v1, v2] T (0, 0)) := setCell_cells h1 2 _
  exact ⟨_, rfl, ((kst w 0 _).trans (kst _ 1 _) (M'' := (· = b)) (fun _ _ h => h) (fun _ _ h => h)).trans (kst _ 2 _) (fun _ _ h => h) (fun _ _ h => h), by rw [cell_cells h2]; rfl, by rw [cell_cells h2]; rfl, by rw [cell_cells h2]; rfl⟩

set_option maxRecDepth 100000 in
set_option maxHeartbeats 8000000 in
theorem schemaAction_c (w0 : World) (M : Nat → Prop) (nm : Str) (a : AAct) (ps : Sl) (fl : Bool) (prs rss : Sl) (k : Int) (s : Str) (el al : Sl) (h : IActIs w0 M a ps fl prs rss k s el al) (w : World) (k0 : Keep NoB w0 w) :
    Calls Tryz.prog 49 #[.agg #[.string nm, .slice ps.1 ps.2.1 ps.2.2, .bool fl, .slice prs.1 prs.2.1 prs.2.2, .slice rss.1 rss.2.1 rss.2.2, .int .i64 k, .string s, .slice el.1 el.2.1 el.2.2, .slice al.1 al.2.1 al.2.2]] w (ActOut w a) := by
  obtain ⟨iU, hiU, hzU, hsU, hbU⟩ := info_parts infoParRef
  have HU := Lib.hid (And.intro hiU (And.intro hzU (And.intro hsU hbU)))
  clear hiU hzU hsU hbU
  obtain ⟨po, pn, pc⟩ := ps
  obtain ⟨qo, qn, qc⟩ := prs
  obtain ⟨ro, rn, rc⟩ := rss
  dsimp only
  obtain ⟨O1, hO1⟩ : ∃ O1 : Obj, O1 = .cells #[.string nm, .slice po pn pc, .bool fl, .slice qo qn qc, .slice ro rn rc, .int .i64 k, .string s, .slice el.1 el.2.1 el.2.2, .slice al.1 al.2.1 al.2.2] 32 := ⟨_, rfl⟩
  obtain ⟨wS, hwS⟩ : ∃ wS, wS = ((w.alloc O1).alloc (.cells #[.map none, .slice none 0 0, .pointer none] 194)).alloc (.cells #[.map none, .slice none 0 0, .pointer none] 194) := ⟨_, rfl⟩
  have hkS : Keep NoB w wS ∧ wS.heap.size = w.heap.size + 1 + 1 + 1 ∧ wS.heap[w.heap.size]? = some O1 ∧ wS.heap[w.heap.size + 1]? = some (.cells #[.map none, .slice none 0 0, .pointer none] 194 (0, 0)) ∧ wS.heap[w.heap.size + 1 + 1]? = some (.cells #[.map none, .slice none 0 0, .pointer none] 194 (0, 0)) := by
    obtain ⟨w1, e1⟩ : ∃ w1, w1 = w.alloc O1 := ⟨_, rfl⟩
    obtain ⟨w2, e2⟩ : ∃ w2, w2 = w1.alloc (.cells #[.map none, .slice none 0 0, .pointer none] 194) := ⟨_, rfl⟩
    rw [← e1, ← e2] at hwS
    have s1 : w1.heap.size = w.heap.size + 1 := by rw [e1, World.size_alloc]
    have s2 : w2.heap.size = w.heap.size + 1 + 1 := by rw [e2, World.size_alloc, s1]
    have k3 : Keep NoB w2 wS := hwS ▸ Keep.alloc _ _ _
    have k2 : Keep NoB w1 w2 := e2 ▸ Keep.alloc _ _ _
    have k1 : Keep NoB w w1 := e1 ▸ Keep.alloc _ _ _
    refine ⟨(k1.then k2).then k3, by rw [hwS, World.size_alloc, s2], (k2.then k3).heap (e1 ▸ (MapKept.heap_alloc w O1).1) (NoB.not _), ?_, ?_⟩
    · have := (MapKept.heap_alloc w1 (.cells #[.map none, .slice none 0 0, .pointer none] 194)).1
      rw [s1, ← e2] at this
      exact k3.heap this (NoB.not _)
    · have := (MapKept.heap_alloc w2 (.cells #[.map none, .slice none 0 0, .pointer none] 194)).1
      rw [s2, ← hwS] at this
      exact this
  have HA := Lib.hid (And.intro h (And.intro k0 hkS))
  obtain ⟨hkS1, hkS2, hkS3, hkS4, hkS5⟩ := hkS
  rw [hO1] at hkS3
  have f1 : wS.cell? ⟨w.heap.size, 1, none⟩ = some (.slice po pn pc) := by rw [cell_cells hkS3]; rfl
  have HW := Lib.hid hwS
  have HO := Lib.hid hO1
  clear h k0 hkS1 hkS2 hkS3 hkS4 hkS5
  go_enter Tryz.func49, Tryz.ntmps49
  go_upto_region 2 with fail
  rw [← hO1, ← hwS]
  clear hwS hO1
  go_wp2_with fail
  clear f1
  have hpar := HA.out.1.par
  obtain ⟨ov, cc, he, hcs⟩ := hpar
  obtain ⟨rfl, hpn, rfl⟩ : po = ov ∧ pn = a.parents.length ∧ pc = cc := by simpa [slV] using he
  have hpL : pn ≤ 1000000 := by rw [hpn]; exact HA.out.1.pL
  have HN := Lib.hid (And.intro hpn hcs)
  clear hpn hcs he
  obtain ⟨a2, ha2⟩ : ∃ a2, a2 = w.heap.size + 1 + 1 := ⟨_, rfl⟩
  rw [← ha2]
  have H2 := Lib.hid ha2
  clear ha2
  go_loopg [14] pn (fun k i w2 => ∃ (j : Nat) (sl : Value), j + k = pn ∧ i = .int .i64 j ∧ GrpRow wS w2 a2 a.parents j sl)
  case atStart => exact ⟨0, .slice none 0 0, by omega, rfl, Keep.refl _ _, by rw [H2.out]; exact HA.out.2.2.2.2.2.2, ⟨rfl, .inl ⟨rfl, rfl⟩⟩⟩
  case round =>
    obtain ⟨j, sl, hj, rfl, hrow⟩ := hrel
    have HR := Lib.hid hrow
    clear hrow
    by_cases hlt : j < pn
    · obtain ⟨hpn, hcs⟩ := HN.out
      have hs2 : wS.heap.size = a2 + 1 := by have := HA.out.2.2.2.1; have := H2.out; omega
      have kwr : Keep NoB w0 wr := (HA.out.2.1.then HA.out.2.2.1).trans HR.out.1 (fun _ _ h => h) (fun i hi h => by have := (HA.out.2.1).size; have := H2.out; omega)
      rcases hcs with h0 | ⟨bv, offv, rfl, hMv, hcell⟩
      · omega
      have hcv := (hcell j (by omega)).2.keep kwr (NoB.not _)
      obtain ⟨uj, huj⟩ : ∃ uj, uj = a.parents.getD j (⟨#[]⟩, ⟨#[]⟩) := ⟨_, rfl⟩
      have g0 := hcv 0 _ rfl
      have g1 := hcv 1 _ rfl
      rw [Nat.add_zero] at g0
      rw [← huj] at g0 g1
      obtain ⟨so, sc, rfl⟩ := ownsRow_shape HR.out.2.2
      obtain ⟨wA, hwA⟩ : ∃ wA, wA = wr.alloc (.cells #[.string uj.1, .string uj.2] 34) := ⟨_, rfl⟩
      have kA : Keep NoB wr wA := hwA ▸ Keep.alloc _ _ _
      have hbA : wA.heap[wr.heap.size]? = some (.cells #[.string uj.1, .string uj.2] 34 (0, 0)) := hwA ▸ (MapKept.heap_alloc wr _).1
      have HQ := Lib.hid (show ∀ x, Keep NoB wA x → x.heap[a2]? = some (.cells #[.map none, .slice so j sc, .pointer none] 194 (0, 0)) ∧ x.cell? ⟨a2, 1, none⟩ = some (.slice so j sc) ∧ x.cell? ⟨wr.heap.size, 0, none⟩ = some (.string uj.1) ∧ x.cell? ⟨wr.heap.size, 1, none⟩ = some (.string uj.2) ∧ x.ownsRow wS.heap.size 232 2 (.slice so j sc) j (uidCells (a.parents.take j)) from fun x kx => by
        have h1 := (kA.then kx).heap HR.out.2.1 (NoB.not _)
        have h2 := kx.heap hbA (NoB.not _)
        exact ⟨h1, by rw [cell_cells h1]; rfl, by rw [cell_cells h2]; rfl, by rw [cell_cells h2]; rfl, HR.out.2.2.keep (M := NoB) (kA.then kx) (fun _ _ => NoB.not _)⟩)
      have HZ := Lib.hid (And.intro huj (And.intro hwA (And.intro kA (And.intro hs2 (show wS.heap.size ≤ wr.heap.size from HR.out.1.size)))))
      clear hpn kwr hMv hcell hcv huj hs2 kA hbA hwA
      go_upto_region 5 with fail
      have hwA' := HZ.out.2.1
      rw [← hwA']
      clear hwA' g0 g1
      have kD : Keep NoB wA wA.drew := Keep.drew _ _
      obtain ⟨_, c0, d0, d1, _⟩ := HQ.out _ kD
      go_region_law
        (first
          | (go_simp; go_at_call 71; refine (astEntityType_c _ _).mono ?_; rintro e w4 ⟨rfl, hw4⟩; subst hw4)
          | (go_simp; go_at_call 70; refine (newParentRef_c _ _ _).mono ?_; rintro e w4 ⟨rfl, k4⟩; have kw4 := kD.then k4; have c4 := (HQ.out _ kw4).2.1; have c5 := fun O => (HQ.out (w4.alloc O) (kw4.then (Keep.alloc _ _ _))).2.1; have d4 := (HQ.out _ kw4).2.2.1; have d5 := (HQ.out _ kw4).2.2.2.1)
          | (obtain ⟨_, _, _, _, hown⟩ := HQ.out (w4.alloc (.cells #[.string uj.1, .string uj.2] 232)) (kw4.then (Keep.alloc _ _ _))
             refine step_append_lies _ (by rfl) _ _ _ (by rfl) wS.heap.size 232 iU _ 2 32 Tryz.underlying191 HU.out.1 HU.out.2.1 HU.out.2.2.1 HU.out.2.2.2 rfl (by omega) _ _ (uidCells (a.parents.take j)) (by rfl) hown
               ⟨w4.heap.size, 0, none⟩ 1 1 [.string uj.1, .string uj.2] (by rfl) (by rfl) (World.news_of_block (cs := #[.string uj.1, .string uj.2]) (t := 232) (fr := (0, 0)) (heap_alloc_new w4 _)) (by simp [Value.oneCell'])
               (by omega) (by unfold maxLen; omega) (by omega) (by have h1 := HZ.out.2.2.2.2; have h2 := HZ.out.2.2.1.size; have h3 := kw4.size; simp; omega) (w4.heap.size + 1) (by simp) ?_
             intro gg cap w5 hown5 hgrow hgat hglt
             have kg := grown_keep hown hgrow
             have ka : Keep (fun i => wS.heap.size ≤ i) wA w5 := (kw4.then (Keep.alloc _ _ _)).first kg
             have hb5 := ka.heap (HQ.out wA (Keep.refl _ _)).1 (by have h1 := HZ.out.2.2.2.1; omega)
             have HX5 := Lib.hid (And.intro ka (And.intro hown5 hb5))
             have c6 : w5.frozen? ⟨a2, 1, none⟩ = false := frozen_cells hb5 1
             have c7 : w5.cell? ⟨a2, 1, none⟩ = some (.slice so j sc) := by rw [cell_cells hb5]; rfl
             clear hown5 hgrow hgat hglt hown kg ka hb5 k4))
      all_goals
        clear c0 c4 c5 c6 c7 d0 d1 d4 d5 kD
        go_wp2_with fail
        go_roundg (gk - 1)
        case measure => omega
        case rel =>
          obtain ⟨ka, hown5, hb5⟩ := HX5.out
          obtain ⟨huj, _, kA, hs2, hszr⟩ := HZ.out
          have kst : Keep (· = a2) w5 (w5.setCell ⟨a2, 1, none⟩ (.slice (some ⟨gg, 0, none⟩) (j + 1) cap)) := Keep.setCell _ _ _ (fun _ => rfl)
          refine ⟨j + 1, .slice (some ⟨gg, 0, none⟩) (j + 1) cap, by omega, by go_num, ((HR.out.1.then kA).trans ka (fun _ _ h => h) (fun i hi h => by omega)).trans kst (fun _ _ h => h) (fun _ _ h => h), setCell_cells hb5 1 _, ?_⟩
          have hjl : j < a.parents.length := by have := HN.out.1; omega
          have huj2 : uj = a.parents[j] := by rw [huj, List.getD_eq_getElem?_getD, List.getElem?_eq_getElem hjl]; rfl
          rw [List.take_succ_eq_append_getElem hjl, ← huj2, uidCells_snoc]
          exact World.ownsRow.keep (M := (· = a2)) hown5 kst (fun i hi h => by omega)
    · have hjn : j = pn := by omega
      subst hjn
      obtain ⟨so, sc, rfl⟩ := ownsRow_shape HR.out.2.2
      have hs2 : wS.heap.size = a2 + 1 := by have := HA.out.2.2.2.1; have := H2.out; omega
      have ha2 := H2.out
      have kr := HR.out.1
      have hb0 := kr.heap HA.out.2.2.2.2.1 (by omega)
      rw [HO.out] at hb0
      have hb1 := kr.heap HA.out.2.2.2.2.2.1 (by omega)
      have hb2 := HR.out.2.1
      have htk : a.parents.take j = a.parents := by rw [HN.out.1]; exact List.take_length
      have hgr : UidsAt wr (fun i => i < wS.heap.size) a.parents (.slice so j sc) := by
        have h1 := HR.out.2.2
        rw [htk] at h1
        exact (ownsRow_uids h1 (fun i h => h)).2
      have kwS : Keep NoB w wS := HA.out.2.2.1
      have kw : Keep NoB w wr := kwS.trans kr (fun _ _ h => h) (fun i hi h => by omega)
      have HB := Lib.hid (And.intro hb0 (And.intro hb1 (And.intro hb2 (And.intro hgr (And.intro kw (And.intro hs2 (show wS.heap.size ≤ wr.heap.size from kr.size)))))))
      have f2 : wr.cell? ⟨w.heap.size, 2, none⟩ = some (.bool fl) := by rw [cell_cells hb0]; rfl
      clear hs2 ha2 kr hb0 hb1 hb2 htk hgr kwS kw hlt hj
      cases fl with
      | false =>
        have happ : a.app = none := by
          have h1 := HA.out.1.app
          cases hq : a.app with
          | none => rfl
          | some x => rw [hq] at h1; exact absurd h1.1 (by decide)
        obtain ⟨hb0, hb1, hb2, hgr, kw, hs2, hsr⟩ := HB.out
        have q0 : wr.cell? ⟨a2, 0, none⟩ = some (.map none) := by rw [cell_cells hb2]; rfl
        have q1 : wr.cell? ⟨a2, 1, none⟩ = some (.slice so j sc) := by rw [cell_cells hb2]; rfl
        have q2 : wr.cell? ⟨a2, 2, none⟩ = some (.pointer none) := by rw [cell_cells hb2]; rfl
        have r0 : wr.cell? ⟨w.heap.size + 1, 0, none⟩ = some (.map none) := by rw [cell_cells hb1]; rfl
        have r1 : wr.cell? ⟨w.heap.size + 1, 1, none⟩ = some (.slice none 0 0) := by rw [cell_cells hb1]; rfl
        have r2 : wr.cell? ⟨w.heap.size + 1, 2, none⟩ = some (.pointer none) := by rw [cell_cells hb1]; rfl
        have z0 := frozen_cells hb1 0
        have z1 := frozen_cells hb1 1
        have z2 := frozen_cells hb1 2
        have HP := Lib.hid happ
        clear hb0 hb1 hb2 hgr kw hs2 hsr happ
        go_wp2_with fail
        obtain ⟨hb0, hb1, hb2, hgr, kw, hs2, hsr⟩ := HB.out
        obtain ⟨wz, hwz, ks, e0, e1, e2⟩ := act_set (v1 := .slice so j sc) (v2 := .pointer none) hb1
        rw [← hwz]
        refine bodyPost_ret (v := .tuple #[.agg #[.map none, .slice so j sc, .pointer none], .bool true]) ?_ rfl ⟨(so, j, sc), none, rfl, ⟨none, _, _, rfl, ?_, HA.out.1.pz, HA.out.1.pL, ?_⟩, kw.trans ks (fun _ _ h => h) (fun i hi h => by omega)⟩
        · simp [results, Tryz.results49, go_sem, e0, e1, e2, Result.andThen]
        · have ha2 := H2.out
          exact UidsAt.keep.k ks (fun i hi h => by show i < _; omega) (fun i hi (h : i < w.heap.size) => by show i < _; omega) hgr
        · rw [HP.out]; rfl
      | true =>
        obtain ⟨x1, x2, x3, happ⟩ : ∃ x1 x2 x3, a.app = some (x1, x2, x3) := by
          have h1 := HA.out.1.app
          cases hq : a.app with
          | none => rw [hq] at h1; cases h1
          | some x => exact ⟨x.1, x.2.1, x.2.2, rfl⟩
        have hto := HA.out.1.app
        rw [happ] at hto
        obtain ⟨_, hsp, hsr, hz1, hz2, hl1, hl2, hctx⟩ := hto
        dsimp only at hsp hsr hz1 hz2 hl1 hl2 hctx
        have hqn : qn = x1.length := by obtain ⟨_, _, e, _⟩ := hsp; simp [slV] at e; exact e.2.1
        have hrn : rn = x2.length := by obtain ⟨_, _, e, _⟩ := hsr; simp [slV] at e; exact e.2.1
        subst hqn hrn
        have k0r : Keep NoB w0 wr := HA.out.2.1.then HB.out.2.2.2.2.1
        have HSR := Lib.hid (show ∀ x, Keep NoB wr x → ∀ (l : List Str) (o : Option Addr) (c : Nat), (l = x1 ∧ o = qo ∧ c = qc) ∨ (l = x2 ∧ o = ro ∧ c = rc) → Calls Tryz.prog 68 #[.slice o l.length c] x (fun e w' => ∃ o n c', e = .returned (.slice o n c') ∧ StrsAt w' (· < x.heap.size) l (.slice o n c') ∧ Keep NoB x w') from fun x kx l o c hh => by
          rcases hh with ⟨rfl, rfl, rfl⟩ | ⟨rfl, rfl, rfl⟩
          · exact schemaRefs_c x M l o c hl1 (StrsAt.keep.k (M' := M) (k0r.then kx) (fun _ _ h => h.elim) (fun _ _ h => h) hsp)
          · exact schemaRefs_c x M l o c hl2 (StrsAt.keep.k (M' := M) (k0r.then kx) (fun _ _ h => h.elim) (fun _ _ h => h) hsr))
        have hb0 := HB.out.1
        have HQ := Lib.hid (show ∀ x, Keep NoB wr x → x.cell? ⟨w.heap.size, 3, none⟩ = some (.slice qo x1.length qc) ∧ x.cell? ⟨w.heap.size, 4, none⟩ = some (.slice ro x2.length rc) from fun x kx => by
          have h1 := kx.heap hb0 (NoB.not _)
          exact ⟨by rw [cell_cells h1]; rfl, by rw [cell_cells h1]; rfl⟩)
        have HT := Lib.hid (And.intro happ (And.intro hz1 (And.intro hz2 (And.intro hl1 (And.intro hl2 (And.intro hctx k0r))))))
        clear hb0 happ hsp hsr hz1 hz2 hl1 hl2 hctx k0r
        go_upto_region 9 with fail
        clear f2
        have hKA : Keep NoB wr wr.drew := Keep.drew _ _
        obtain ⟨q3, q4⟩ := HQ.out _ hKA
        go_cut [7] (fun s7 wx => ∃ (d : Nat) (v1 v2 : Value), s7 = .pointer (some ⟨d, 0, none⟩) ∧ Keep NoB wr wx ∧ wr.heap.size ≤ d ∧ wx.heap[d]? = some (.cells #[v1, v2, .nilIface] 236 (0, 0)) ∧ StrsAt wx (fun i => i < wr.heap.size ∨ i = d) x1 v1 ∧ StrsAt wx (fun i => i < wr.heap.size ∨ i = d) x2 v2)
        case first =>
          go_region_held3 (fun x => Keep NoB wr x ∧ x.cell? ⟨w.heap.size, 3, none⟩ = some (.slice qo x1.length qc) ∧ x.cell? ⟨w.heap.size, 4, none⟩ = some (.slice ro x2.length rc))
            (with_reducible (first
              | exact ⟨kw4, HQ.out _ kw4⟩
              | exact ⟨(kw4.then (Keep.alloc _ _ _)), HQ.out _ (kw4.then (Keep.alloc _ _ _))⟩
              | exact ⟨hKA, q3, q4⟩
              | assumption))
            ((first
              | (go_at_call 68
                 refine (HSR.out _ (by go_split_ands; assumption) _ _ _ (by first | exact .inl ⟨rfl, rfl, rfl⟩ | exact .inr ⟨rfl, rfl, rfl⟩)).mono ?_
                 rintro e w4 ⟨o4, n4, c4, rfl, hs4, k4⟩
                 have kw4 : Keep NoB wr w4 := Keep.then (by go_split_ands; assumption) k4)))
          go_wp2_with fail
          go_meet
          case rel =>
            refine ⟨_, _, _, rfl, kw4.then (Keep.alloc _ _ _), kw4.size, (MapKept.heap_alloc w4 _).1, ?_, ?_⟩
            · refine StrsAt.keep.k (M := fun i => i < wr.drew.heap.size) (k4.then (Keep.alloc _ _ NoB)) (fun _ _ h => h.elim) (fun i hi h => h.elim id fun e => ?_) (by assumption)
              have := k4.size
              omega
            · refine StrsAt.keep.k (Keep.alloc _ _ NoB) (fun _ _ h => h.elim) (fun i hi h => ?_) hs4
              rcases h with h | h
              · exact Nat.lt_of_lt_of_le h (Keep.size (M := NoB) (by assumption))
              · exact absurd h (Nat.ne_of_lt hi)
        case rest =>
          obtain ⟨d, v1, v2, rfl, kx, hd, hbd, hs1, hs2⟩ := hcut
          obtain ⟨hb0, hb1, hb2, hgr, kw, hsS, hsr⟩ := HB.out
          obtain ⟨happ, hz1, hz2, hl1, hl2, hctx, k0r⟩ := HT.out
          have ha2 := H2.out
          have c0 := kx.heap hb0 (NoB.not _)
          have c1 := kx.heap hb1 (NoB.not _)
          have c2 := kx.heap hb2 (NoB.not _)
          have f5 : wc.cell? ⟨w.heap.size, 5, none⟩ = some (.int .i64 k) := by rw [cell_cells c0]; rfl
          have HR2 := Lib.hid (And.intro kx (And.intro hd (And.intro hbd (And.intro hs1 (And.intro hs2 (And.intro c0 (And.intro c1 c2)))))))
          -- the last stores, whatever world they start in
          have HEnd := Lib.hid (show ∀ wF cv, Keep (· = d) wc wF → wF.heap[d]? = some (.cells #[v1, v2, cv] 236 (0, 0)) → ATags wF (fun i => i < wc.heap.size) x3 cv →
              (wF.cell? ⟨a2, 2, none⟩ = some (.pointer none) ∧ wF.frozen? ⟨a2, 2, none⟩ = false) ∧
              (∀ wG, wG = wF.setCell ⟨a2, 2, none⟩ (.pointer (some ⟨d, 0, none⟩)) → (wG.cell? ⟨a2, 0, none⟩ = some (.map none) ∧ wG.cell? ⟨a2, 1, none⟩ = some (.slice so j sc) ∧ wG.cell? ⟨a2, 2, none⟩ = some (.pointer (some ⟨d, 0, none⟩))) ∧
                (wG.cell? ⟨w.heap.size + 1, 0, none⟩ = some (.map none) ∧ wG.cell? ⟨w.heap.size + 1, 1, none⟩ = some (.slice none 0 0) ∧ wG.cell? ⟨w.heap.size + 1, 2, none⟩ = some (.pointer none) ∧ wG.frozen? ⟨w.heap.size + 1, 0, none⟩ = false ∧ wG.frozen? ⟨w.heap.size + 1, 1, none⟩ = false ∧ wG.frozen? ⟨w.heap.size + 1, 2, none⟩ = false) ∧
                ∀ wz, wz = ((wG.setCell ⟨w.heap.size + 1, 0, none⟩ (.map none)).setCell ⟨w.heap.size + 1, 1, none⟩ (.slice so j sc)).setCell ⟨w.heap.size + 1, 2, none⟩ (.pointer (some ⟨d, 0, none⟩)) →
                  wz.cell? ⟨w.heap.size + 1, 0, none⟩ = some (.map none) ∧ wz.cell? ⟨w.heap.size + 1, 1, none⟩ = some (.slice so j sc) ∧ wz.cell? ⟨w.heap.size + 1, 2, none⟩ = some (.pointer (some ⟨d, 0, none⟩)) ∧ AActIs wz (· < w.heap.size) a (.agg #[.map none, .slice so j sc, .pointer (some ⟨d, 0, none⟩)]) ∧ Keep NoB w wz) from fun wF cv kF hrowF hcv => by
            have hwr := kw.size
            have g2 := kF.heap c2 (by omega)
            have g1 := kF.heap c1 (by omega)
            refine ⟨⟨by rw [cell_cells g2]; rfl, frozen_cells g2 2⟩, fun wG hwG => ?_⟩
            have kG : Keep (· = a2) wF wG := hwG ▸ Keep.setCell _ _ _ (fun _ => rfl)
            have h2 : wG.heap[a2]? = some (.cells #[.map none, .slice so j sc, .pointer (some ⟨d, 0, none⟩)] 194 (0, 0)) := hwG ▸ setCell_cells g2 2 _
            have h1 := kG.heap g1 (by omega)
            refine ⟨⟨by rw [cell_cells h2]; rfl, by rw [cell_cells h2]; rfl, by rw [cell_cells h2]; rfl⟩, ⟨by rw [cell_cells h1]; rfl, by rw [cell_cells h1]; rfl, by rw [cell_cells h1]; rfl, frozen_cells h1 0, frozen_cells h1 1, frozen_cells h1 2⟩, fun wz hwz => ?_⟩
            obtain ⟨wy, hwy, ks, e0, e1, e2⟩ := act_set (v1 := .slice so j sc) (v2 := .pointer (some ⟨d, 0, none⟩)) h1
            rw [← hwy] at hwz
            subst hwz
            have kcz : Keep (fun i => i = d ∨ i = a2 ∨ i = w.heap.size + 1) wc wz := (kF.trans kG (M'' := fun i => i = d ∨ i = a2 ∨ i = w.heap.size + 1) (fun _ _ h => .inl h) (fun _ _ h => .inr (.inl h))).trans ks (fun _ _ h => h) (fun _ _ h => .inr (.inr h))
            have kFz : Keep (fun i => i = a2 ∨ i = w.heap.size + 1) wF wz := kG.trans ks (fun _ _ h => .inl h) (fun _ _ h => .inr h)
            have hw1 : w.heap.size + 1 < wS.heap.size := by omega
            refine ⟨e0, e1, e2, ⟨none, _, _, rfl, ?_, HA.out.1.pz, HA.out.1.pL, ?_⟩, (kw.then kx).trans kcz (fun _ _ h => h) (fun i hi h => by rcases h with h | h | h <;> omega)⟩
            · have hg1 := UidsAt.keep.k (M' := fun i => i < wS.heap.size ∨ i = d) kx (fun _ _ h => h.elim) (fun i hi h => h.elim id fun e => by omega) hgr
              exact UidsAt.keep.k kcz (fun i hi h => by show i < _ ∨ _; rcases h with h | h | h <;> omega) (fun i hi (h : i < w.heap.size) => by show i < _ ∨ _; omega) hg1
            · rw [happ]
              refine ⟨d, v1, v2, cv, rfl, by show ¬ d < _; omega, kFz.heap hrowF (fun h => by rcases h with h | h <;> omega), ?_, ?_, ?_, hz1, hz2, hl1, hl2⟩
              · exact StrsAt.keep.k kcz (fun i hi h => by show i < _ ∨ _; rcases h with h | h | h <;> omega) (fun i hi (h : i < w.heap.size) => by show i < _ ∨ _; omega) hs1
              · exact StrsAt.keep.k kcz (fun i hi h => by show i < _ ∨ _; rcases h with h | h | h <;> omega) (fun i hi (h : i < w.heap.size) => by show i < _ ∨ _; omega) hs2
              · have hcs := kx.size
                exact ATags.keep.k kFz (fun i hi h => by show i < _; rcases h with h | h <;> omega) (fun i hi (h : i < w.heap.size) => by show i < _; omega) hcv)
          cases x3 with
          | none =>
            obtain rfl : k = 0 := hctx
            obtain ⟨⟨t2, z2⟩, hG⟩ := HEnd.out wc .nilIface (Keep.refl _ _) hbd rfl
            obtain ⟨⟨p0, p1, p2⟩, ⟨r0, r1, r2, y0, y1, y2⟩, hz⟩ := hG _ rfl
            have HZ := Lib.hid hz
            clear hz hG kx hd hbd hs1 hs2 hb0 hb1 hb2 hgr kw hsS hsr happ hz1 hz2 hl1 hl2 k0r ha2 c0 c1 c2 hKA q3 q4
            go_wp2_with fail
            obtain ⟨e0, e1, e2, hact, kz⟩ := HZ.out _ rfl
            refine bodyPost_ret (v := .tuple #[.agg #[.map none, .slice so j sc, .pointer (some ⟨d, 0, none⟩)], .bool true]) ?_ rfl ⟨(so, j, sc), some ⟨d, 0, none⟩, rfl, hact, kz⟩
            simp [results, Tryz.results49, go_sem, e0, e1, e2, Result.andThen]
          | some t =>
            obtain ⟨hk0, hty⟩ := hctx
            have hkb : (k != 0) = true := bne_iff_ne.2 hk0
            have HC := Lib.hid (schemaType_c hty wc (k0r.then kx))
            have f6 : wc.cell? ⟨w.heap.size, 6, none⟩ = some (.string s) := by rw [cell_cells c0]; rfl
            have f7 : wc.cell? ⟨w.heap.size, 7, none⟩ = some (.slice el.1 el.2.1 el.2.2) := by rw [cell_cells c0]; rfl
            have f8 : wc.cell? ⟨w.heap.size, 8, none⟩ = some (.slice al.1 al.2.1 al.2.2) := by rw [cell_cells c0]; rfl
            clear hk0 hty kx hd hbd hs1 hs2 hb0 hb1 hb2 hgr kw hsS hsr happ hz1 hz2 hl1 hl2 k0r ha2 c0 c1 c2 hKA q3 q4
            go_wp2_with fail
            refine HC.out.mono ?_
            rintro en w5 ⟨T, x, rfl, hAT, k5⟩
            clear f5 f6 f7 f8 hkb
            have hbd := HR2.out.2.2.1
            have hb5 := k5.heap hbd (NoB.not _)
            have g2 : w5.cell? ⟨d, 2, none⟩ = some .nilIface := by rw [cell_cells hb5]; rfl
            have gz := frozen_cells hb5 2
            have ks : Keep (· = d) w5 (w5.setCell ⟨d, 2, none⟩ (.iface T x)) := Keep.setCell _ _ _ (fun _ => rfl)
            have hdc : d < wc.heap.size := (Array.getElem?_eq_some_iff.1 hbd).1
            obtain ⟨⟨t2, z2⟩, hG⟩ := HEnd.out (w5.setCell ⟨d, 2, none⟩ (.iface T x)) (.iface T x) (k5.first ks) (setCell_cells hb5 2 _) (ATyIs.keep (M' := fun i => i < wc.heap.size) ks (fun i hi h => by show i < _; omega) (fun _ _ h => h) hAT)
            obtain ⟨⟨p0, p1, p2⟩, ⟨r0, r1, r2, y0, y1, y2⟩, hz⟩ := hG _ rfl
            have HZ := Lib.hid hz
            clear hz hG hbd hb5 ks hAT k5
            go_wp2_with fail
            obtain ⟨e0, e1, e2, hact, kz⟩ := HZ.out _ rfl
            refine bodyPost_ret (v := .tuple #[.agg #[.map none, .slice so j sc, .pointer (some ⟨d, 0, none⟩)], .bool true]) ?_ rfl ⟨(so, j, sc), some ⟨d, 0, none⟩, rfl, hact, kz⟩
            simp [results, Tryz.results49, go_sem, e0, e1, e2, Result.andThen]
end Go.Proofs.YtedgonoeeeiilaaGreatDoor
