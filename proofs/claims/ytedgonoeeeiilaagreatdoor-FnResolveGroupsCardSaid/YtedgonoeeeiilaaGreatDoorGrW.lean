/- FnResolveGroups: the walk of the law. -/
import Derived.Test.YtedgonoeeeiilaaGreatDoorGrP
import Derived.Test.YtedgonoeeeiilaaGreatDoorSt
import Derived.IntWalk
import Derived.Deep.AppendLies
import Derived.BigQuiet
import Derived.Laws.StructEq
namespace Go.Proofs.YtedgonoeeeiilaaGreatDoor
open Go.RowKit

/-- One action's cells, as it is given: it applies to nothing. -/
def ActG (w : World) (M : Nat → Prop) (x : Str × AAct) (cs : List Value) : Prop := ∃ ps : Sl, cs = [.string x.1, slV ps, .bool false, .slice none 0 0, .slice none 0 0, .int .i64 0, .string ⟨#[]⟩, .slice none 0 0, .slice none 0 0] ∧ UidsAt w M x.2.parents (slV ps)
theorem ActG.keeps : KeepsC ActG := ⟨fun hk h2 h3 ⟨ps, e1, h⟩ => ⟨ps, e1, UidsAt.keep.k hk h2 h3 h⟩⟩
theorem infoIActD : (Tryz.prog.info? 32).map (fun i => (i.zero, i.size, i.bytes)) = some (some (.agg #[.string ⟨#[]⟩, .slice none 0 0, .bool false, .slice none 0 0, .slice none 0 0, .int .i64 0, .string ⟨#[]⟩, .slice none 0 0, .slice none 0 0]), 9, 168) := by kernel_rfl
theorem gA_snoc (n : Nat) (tg : Option Nat) (j : Nat) : gA n tg (j + 1) = gA n tg j ++ [(gN j, ⟨gPar n tg j, none⟩)] := by
  unfold gA; rw [List.range_succ, List.map_append]; rfl
theorem gA_len (n : Nat) (tg : Option Nat) (j : Nat) : (gA n tg j).length = j := by unfold gA; simp
theorem gA_get (n : Nat) (tg : Option Nat) {k : Nat} (hk : k < n) : (gA n tg n)[k]? = some (gN k, ⟨gPar n tg k, none⟩) := by
  unfold gA; rw [List.getElem?_map, List.getElem?_range hk]; rfl
theorem uidsAt_one {w : World} {M : Nat → Prop} {u : Uid} {b : Nat} {T : TypeId} (hM : ¬ M b) (h : w.heap[b]? = some (.cells #[.string u.1, .string u.2] T (0, 0))) : UidsAt w M [u] (.slice (some ⟨b, 0, none⟩) 1 1) := by
  refine ⟨some ⟨b, 0, none⟩, 1, rfl, .inr ⟨b, 0, rfl, hM, fun i hi => ?_⟩⟩
  have hi0 : i = 0 := by simpa using hi
  subst hi0
  exact ⟨rfl, by simpa using cellsAt_of_block h⟩
theorem uidsAt_nil (w : World) (M : Nat → Prop) : UidsAt w M [] (.slice none 0 0) := ⟨none, 0, rfl, .inl rfl⟩

/-- The given actions, behind the loop. -/
theorem GivenA.ofRow {w : World} {base n : Nat} {tg : Option Nat} (hn : n ≤ 50) (htg : ∀ b, tg = some b → b < 50) {v : Value} (h : RowIs ActG w base 32 9 v (gA n tg n)) : ∃ oo oc, v = .slice oo n oc ∧ GivenA w (gA n tg n) (oo, n, oc) := by
  obtain ⟨ov, c, rfl, ho⟩ := h.over ActG.keeps
  rw [gA_len]
  refine ⟨ov, c, rfl, (gA_len n tg n).symm, by rw [gA_len]; omega, gA_nodup hn n hn, fun p hp => ?_, ho.imp id fun ⟨b, e, _, hc⟩ => ⟨b, 0, e, fun i nm a hi => ?_⟩⟩
  · obtain ⟨k, hk, rfl⟩ := List.mem_map.1 hp
    have := gN_size k (by have := List.mem_range.1 hk; omega)
    show (gN k).size ≤ _; omega
  · obtain ⟨cs, _, h1, ps, rfl, h2⟩ := hc i (nm, a) hi
    obtain ⟨k, hk, e⟩ := List.mem_map.1 (List.mem_of_getElem? hi)
    cases e
    have hl := gPar_len (n := n) (tg := tg) k
    have hk' := List.mem_range.1 hk
    refine ⟨ps, false, (none, 0, 0), (none, 0, 0), 0, ⟨#[]⟩, (none, 0, 0), (none, 0, 0), h1, ⟨by show (gPar n tg k).length ≤ _; omega, fun p hp => ?_, UidsAt.keep.k (Keep.refl NoB _) (fun _ _ h => h.elim) (fun _ _ h => h.elim) h2, rfl⟩⟩
    have hp' : p ∈ gPar n tg k := hp
    unfold gPar at hp'
    split at hp'
    · simp only [List.mem_singleton] at hp'
      subst hp'
      have := gN_size (k + 1) (by omega)
      exact ⟨by show (⟨#[]⟩ : Str).size ≤ _; decide, by show (gN (k + 1)).size ≤ _; omega⟩
    · cases tg with
      | none => simp at hp'
      | some b =>
        simp only [List.mem_singleton] at hp'
        subst hp'
        have := gN_size b (by have := htg b rfl; omega)
        exact ⟨by show (⟨#[]⟩ : Str).size ≤ _; decide, by show (gN b).size ≤ _; omega⟩
theorem gr_all (w : World) {s : Str} (hs : s.size ≤ 10) {n : Nat} {tg : Option Nat} {sa : Sl} (hc : GivenA w (gA n tg n) sa) {O : Obj} (hO : O = .cells #[.string s, .slice none 0 0, .slice none 0 0, .slice sa.1 sa.2.1 sa.2.2, .slice none 0 0] 44) :
    IAll (w.alloc O) NoB (gL s n tg) (gD n tg) (some ⟨w.heap.size, 0, none⟩) := by
  have k1 : Keep NoB w (w.alloc O) := Keep.alloc _ _ _
  have hb := (MapKept.heap_alloc w O).1
  have hc' : GivenA (w.alloc O) (gA n tg n) sa := ⟨hc.alen, hc.aL, hc.anod, hc.asz, hc.act.imp id fun ⟨b, off, e, h⟩ => ⟨b, off, e, fun i nm a hi => by
    obtain ⟨ps, fl, prs, rss, k, s, el, al, h1, h2⟩ := h i nm a hi
    have happ : a.app = none := by
      have := List.mem_of_getElem? hi
      obtain ⟨k, _, e⟩ := List.mem_map.1 this
      cases e; rfl
    refine ⟨ps, fl, prs, rss, k, s, el, al, h1.keep k1 (NoB.not _), h2.pL, h2.pz, UidsAt.keep.k k1 (fun _ _ h => h) (fun _ _ h => h) h2.par, ?_⟩
    have h3 := h2.app
    rw [happ] at h3 ⊢
    exact h3⟩⟩
  subst hO
  refine ⟨by simp [gL], ?_, fun S hS hn => ?_, fun S hS => ?_, .inr ⟨_, 0, rfl, fun i S hi => ?_⟩⟩
  · have := gr_named s n tg
    unfold gS at this
    rw [this]; split <;> simp
  · simp only [gL, List.mem_singleton] at hS
    subst hS
    rfl
  · simp only [gL, List.mem_singleton] at hS
    subst hS
    show s.size ≤ _; omega
  · match i with
    | 0 =>
      simp only [gL, List.getElem?_cons_zero, Option.some.injEq] at hi
      subst hi
      exact ⟨(none, 0, 0), (none, 0, 0), sa, (none, 0, 0), cellsAt_of_block hb, isp_of (.nil _) hc'⟩
    | i + 1 => simp [gL] at hi
theorem uids1 {w : World} {M : Nat → Prop} {u : Uid} {po : Option Addr} {pn pc : Nat} (h : UidsAt w M [u] (.slice po pn pc)) : pn = 1 ∧ ∃ b off, po = some ⟨b, off, none⟩ ∧ CellsAt w b off [.string u.1, .string u.2] := by
  obtain ⟨o, c, e, h⟩ := h
  simp only [Value.slice.injEq] at e
  obtain ⟨rfl, rfl, rfl⟩ := e
  refine ⟨rfl, ?_⟩
  rcases h with h | ⟨b, off, e, _, hc⟩
  · simp at h
  · have := (hc 0 (by simp)).2
    rw [Nat.zero_mul, Nat.add_zero] at this
    exact ⟨b, off, e, this⟩
theorem uids0 {w : World} {M : Nat → Prop} {po : Option Addr} {pn pc : Nat} (h : UidsAt w M [] (.slice po pn pc)) : pn = 0 := by
  obtain ⟨o, c, e, _⟩ := h
  simp only [Value.slice.injEq] at e
  exact e.2.1
theorem uid_same (a b : Str) (x : World) : (binOp .neq 34 (.agg #[.string a, .string b]) (.agg #[.string a, .string b])).run Tryz.prog x = .ok (.bool false) x := by
  rw [run_neq_struct]
  simp [go_sem]
theorem quiet_to {P : Program} {ops : Array Oper} {C : World → Prop} {Q : Act → Prop} {l : List Oper} {a : Act} (a' : Act) (h1 : ∀ Q' : Act → Prop, Q' a' → wpQuiet P ops C Q' l a) (h2 : Q a') : wpQuiet P ops C Q l a := h1 Q h2
def spc (b : Bool) : Str := if b then ⟨#[78]⟩ else ⟨#[]⟩
theorem spc_typ (b : Bool) : actionTy (spc b) = if b then (⟨#[78, 58, 58, 65, 99, 116, 105, 111, 110]⟩ : Str) else (⟨#[65, 99, 116, 105, 111, 110]⟩ : Str) := by
  cases b <;> decide +kernel
theorem spc_size (b : Bool) : (spc b).size ≤ 10 := by cases b <;> decide

set_option maxRecDepth 100000 in
set_option maxHeartbeats 16000000 in
theorem groups_c (a b : Nat) (ha : a < 256) (hb : b < 256) (cir nm : Bool) (w : World) :
    Calls Tryz.prog 3 #[.int .u8 a, .int .u8 b, .bool cir, .bool nm] w fun e w' => e = .returned (.bool true) ∧ Keep NoB w w' := by
  obtain ⟨iU, hiU, hzU, hsU, hbU⟩ := info_parts infoIActD
  have HU := Bx.mk (And.intro hiU (And.intro hzU (And.intro hsU hbU)))
  clear hiU hzU hsU hbU
  obtain ⟨n, hn⟩ : ∃ n, n = 1 + a % 50 := ⟨_, rfl⟩
  have hni : (1 : Int) + (a : Int) % 50 = (n : Int) := by omega
  have hn50 : n ≤ 50 := by omega
  have hn0 : 0 < n := by omega
  have hbn : b % n < n := Nat.mod_lt _ hn0
  obtain ⟨tg, htg⟩ : ∃ tg : Option Nat, tg = if cir then some (b % n) else none := ⟨_, rfl⟩
  have HT := Bx.mk htg
  clear htg hn
  go_enter Tryz.func3, Tryz.ntmps3
  go_upto_if 24 with fail
  go_cut [10, 11] (fun s10 s11 wx => s10 = .string (spc nm) ∧ s11 = .string (actionTy (spc nm)) ∧ wx = w)
  case first =>
    cases nm
    · go_wp2_with fail
      go_meet
      case rel => exact ⟨rfl, by rw [spc_typ]; rfl, rfl⟩
    · go_wp2_with fail
      go_meet
      case rel => exact ⟨rfl, by rw [spc_typ]; rfl, rfl⟩
  case rest =>
    obtain ⟨rfl, rfl, hwc⟩ := hcut
    subst hwc
    obtain ⟨w, rfl⟩ : ∃ w0 : World, w0 = wc := ⟨_, rfl⟩
    obtain ⟨s, hs⟩ : ∃ s, s = spc nm := ⟨_, rfl⟩
    have hss : s.size ≤ 10 := by rw [hs]; exact spc_size nm
    rw [← hs]
    clear hs
    obtain ⟨ty, hty⟩ : ∃ ty, ty = actionTy s := ⟨_, rfl⟩
    rw [← hty]
    have HTY := Bx.mk hty
    clear hty
    go_wp2_with fail
    go_loopg [12, 13] n (fun g s12 s13 wr => ∃ j : Nat, j + g = n ∧ s13 = .int .i64 j ∧ RowIs ActG wr w.heap.size 32 9 s12 (gA n tg j) ∧ Keep NoB w wr)
    case atStart => exact ⟨0, by omega, rfl, RowIs.nil _ _ _ _ _, Keep.refl _ _⟩
    case round =>
      obtain ⟨j, hj, rfl, hrow, hk⟩ := hrel
      obtain ⟨oo, oc, hsh⟩ := hrow.shape
      rw [gA_len] at hsh
      subst hsh
      have HE := Bx.mk (And.intro hrow hk)
      clear hrow hk
      by_cases hjn : j < n
      · have hwu : IntKind.u64.wrap (j : Int) = (j : Int) := IntWalk.u64_in _ (by omega)
        have hw1 : wrap64 ((j : Int) + 1) = (j : Int) + 1 := by unfold wrap64; omega
        have hw2 : IntKind.u64.wrap ((j : Int) + 1) = (j : Int) + 1 := IntWalk.u64_in _ (by omega)
        have hg1 : (⟨#[97]⟩ : Str) ++ digS j 3 = gN j := gN_eq (by omega)
        have hg2 : (⟨#[97]⟩ : Str) ++ digS (j + 1) 3 = gN (j + 1) := gN_eq (by omega)
        have hz1 : (digS j 3).size ≤ 3 := by
          have h1 := gN_size j (by omega)
          rw [← hg1, ByteArray.size_append] at h1
          have h2 : (⟨#[97]⟩ : Str).size = 1 := rfl
          omega
        have hz2 : (digS (j + 1) 3).size ≤ 3 := by
          have h1 := gN_size (j + 1) (by omega)
          rw [← hg2, ByteArray.size_append] at h1
          have h2 : (⟨#[97]⟩ : Str).size = 1 := rfl
          omega
        have HD1 := Bx.mk (show ∀ x, Calls Tryz.prog 5 #[.int .u64 (j : Int), .int .i64 3] x fun e w' => e = .returned (.string (digS j 3)) ∧ Keep NoB x w' from fun x => digits_c j 3 (by omega) (by omega) x)
        have HD2 := Bx.mk (show ∀ x, Calls Tryz.prog 5 #[.int .u64 ((j : Int) + 1), .int .i64 3] x fun e w' => e = .returned (.string (digS (j + 1) 3)) ∧ Keep NoB x w' from fun x => by
          have := digits_c (j + 1) 3 (by omega) (by omega) x
          rwa [show (((j + 1 : Nat) : Int)) = (j : Int) + 1 by omega] at this)
        obtain ⟨D1, hD1⟩ : ∃ D1, D1 = digS j 3 := ⟨_, rfl⟩
        obtain ⟨D2, hD2⟩ : ∃ D2, D2 = digS (j + 1) 3 := ⟨_, rfl⟩
        rw [← hD1] at hg1 hz1 HD1
        rw [← hD2] at hg2 hz2 HD2
        have HG := Bx.mk (And.intro hg1 hg2)
        have hs1 : ¬ 9223372036854775807 < 1 + D1.size := by omega
        have hs2 : ¬ 9223372036854775807 < 1 + D2.size := by omega
        clear hD1 hD2 hg1 hg2
        go_wp2_with fail
        refine (HD1.out _).mono ?_
        rintro e w2 ⟨rfl, k2⟩
        have HK2 := Bx.mk k2
        clear k2
        go_upto_if 38 with fail
        go_cut [12, 13] from 25 to 61 (fun s12 s13 wx => s12 = .slice oo j oc ∧ s13 = .int .i64 j ∧ ∃ ps : Sl, wx.heap[w2.heap.size]? = some (.cells #[.string (gN j), .slice ps.1 ps.2.1 ps.2.2, .bool false, .slice none 0 0, .slice none 0 0, .int .i64 0, .string ⟨#[]⟩, .slice none 0 0, .slice none 0 0] 32 (0, 0)) ∧ UidsAt wx (fun i => i < wr.heap.size) (gPar n tg j) (slV ps) ∧ Keep NoB wr wx)
        case first =>
          obtain ⟨wd, hwd⟩ : ∃ wd, wd = w2.alloc (.cells #[.string ((⟨#[97]⟩ : Str) ++ D1), .slice none 0 0, .bool false, .slice none 0 0, .slice none 0 0, .int .i64 0, .string ⟨#[]⟩, .slice none 0 0, .slice none 0 0] 32) := ⟨_, rfl⟩
          have hbd : wd.heap[w2.heap.size]? = some (.cells #[.string ((⟨#[97]⟩ : Str) ++ D1), .slice none 0 0, .bool false, .slice none 0 0, .slice none 0 0, .int .i64 0, .string ⟨#[]⟩, .slice none 0 0, .slice none 0 0] 32 (0, 0)) := hwd ▸ (MapKept.heap_alloc w2 _).1
          have kd : Keep NoB wr wd := hwd ▸ HK2.out.then (Keep.alloc w2 _ NoB)
          rw [HG.out.1] at hbd
          rw [← hwd]
          have HWD := Bx.mk (And.intro hbd kd)
          clear hbd kd hwd
          by_cases h1 : j + 1 < n
          · have h1i : (j : Int) + 1 < (n : Int) := by omega
            go_wp2_with fail
            refine (HD2.out _).mono ?_
            rintro e w3 ⟨rfl, k3⟩
            have hO := Keep.alloc w3 (.cells #[.string ⟨#[]⟩, .string ((⟨#[97]⟩ : Str) ++ D2)] 34) NoB
            have hb3 := (k3.then hO).heap HWD.out.1 (NoB.not _)
            have f1 : (w3.alloc (.cells #[.string ⟨#[]⟩, .string ((⟨#[97]⟩ : Str) ++ D2)] 34)).cell? ⟨w2.heap.size, 1, none⟩ = some (.slice none 0 0) := by rw [cell_cells hb3]; rfl
            have z1 := frozen_cells hb3 1
            have HZ := Bx.mk (And.intro k3 hb3)
            clear k3 hO hb3
            go_wp2_with fail
            go_meet
            case rel =>
              obtain ⟨k3, hb3⟩ := HZ.out
              have h12 := HK2.out.size
              have h23 := (Array.getElem?_eq_some_iff.1 HWD.out.1).1
              have h33 := k3.size
              have hn3 := (Keep.setCell (M := (· = w2.heap.size)) (w3.alloc (.cells #[.string ⟨#[]⟩, .string ((⟨#[97]⟩ : Str) ++ D2)] 34)) ⟨w2.heap.size, 1, none⟩ (.slice (some ⟨w3.heap.size, 0, none⟩) 1 1) (fun _ => rfl)).heap (MapKept.heap_alloc w3 (.cells #[.string ⟨#[]⟩, .string ((⟨#[97]⟩ : Str) ++ D2)] 34)).1 (by omega)
              refine ⟨rfl, rfl, (some ⟨w3.heap.size, 0, none⟩, 1, 1), setCell_cells hb3 1 _, ?_, keepLate ((HWD.out.2.then k3).then (Keep.alloc _ _ _)) h12⟩
              unfold gPar
              rw [if_pos h1]
              refine uidsAt_one (T := 34) (u := (⟨#[]⟩, gN (j + 1))) (by omega) ?_
              rw [← HG.out.2]
              exact hn3
          · have h1i : ¬ (j : Int) + 1 < (n : Int) := by omega
            cases cir
            · go_wp2_with fail
              go_meet
              case rel =>
                refine ⟨rfl, rfl, (none, 0, 0), HWD.out.1, ?_, HWD.out.2⟩
                unfold gPar
                rw [if_neg h1, HT.out, if_neg (by decide)]
                exact uidsAt_nil _ _
            · have hw3 : IntKind.u64.wrap ((b : Int) % (n : Int)) = (b : Int) % (n : Int) := IntWalk.u64_in _ (by omega)
              have hg3 : (⟨#[97]⟩ : Str) ++ digS (b % n) 3 = gN (b % n) := gN_eq (by omega)
              have hz3 : (digS (b % n) 3).size ≤ 3 := by
                have h1 := gN_size (b % n) (by omega)
                rw [← hg3, ByteArray.size_append] at h1
                have h2 : (⟨#[97]⟩ : Str).size = 1 := rfl
                omega
              have HD3 := Bx.mk (show ∀ x, Calls Tryz.prog 5 #[.int .u64 ((b : Int) % (n : Int)), .int .i64 3] x fun e w' => e = .returned (.string (digS (b % n) 3)) ∧ Keep NoB x w' from fun x => by
                have := digits_c (b % n) 3 (by omega) (by omega) x
                rwa [show (((b % n : Nat)) : Int) = (b : Int) % (n : Int) by omega] at this)
              obtain ⟨D3, hD3⟩ : ∃ D3, D3 = digS (b % n) 3 := ⟨_, rfl⟩
              rw [← hD3] at hg3 hz3 HD3
              have HG3 := Bx.mk hg3
              have hs3 : ¬ 9223372036854775807 < 1 + D3.size := by omega
              clear hD3 hg3
              go_wp2_with fail
              refine (HD3.out _).mono ?_
              rintro e w3 ⟨rfl, k3⟩
              have hO := Keep.alloc w3 (.cells #[.string ⟨#[]⟩, .string ((⟨#[97]⟩ : Str) ++ D3)] 34) NoB
              have hb3 := (k3.then hO).heap HWD.out.1 (NoB.not _)
              have f1 : (w3.alloc (.cells #[.string ⟨#[]⟩, .string ((⟨#[97]⟩ : Str) ++ D3)] 34)).cell? ⟨w2.heap.size, 1, none⟩ = some (.slice none 0 0) := by rw [cell_cells hb3]; rfl
              have z1 := frozen_cells hb3 1
              have HZ := Bx.mk (And.intro k3 hb3)
              clear k3 hO hb3
              go_wp2_with fail
              go_meet
              case rel =>
                obtain ⟨k3, hb3⟩ := HZ.out
                have h12 := HK2.out.size
                have h23 := (Array.getElem?_eq_some_iff.1 HWD.out.1).1
                have h33 := k3.size
                have hn3 := (Keep.setCell (M := (· = w2.heap.size)) (w3.alloc (.cells #[.string ⟨#[]⟩, .string ((⟨#[97]⟩ : Str) ++ D3)] 34)) ⟨w2.heap.size, 1, none⟩ (.slice (some ⟨w3.heap.size, 0, none⟩) 1 1) (fun _ => rfl)).heap (MapKept.heap_alloc w3 (.cells #[.string ⟨#[]⟩, .string ((⟨#[97]⟩ : Str) ++ D3)] 34)).1 (by omega)
                refine ⟨rfl, rfl, (some ⟨w3.heap.size, 0, none⟩, 1, 1), setCell_cells hb3 1 _, ?_, keepLate ((HWD.out.2.then k3).then (Keep.alloc _ _ _)) h12⟩
                unfold gPar
                rw [if_neg h1, HT.out, if_pos rfl]
                refine uidsAt_one (T := 34) (u := (⟨#[]⟩, gN (b % n))) (by omega) ?_
                rw [← HG3.out]
                exact hn3
        case rest =>
          obtain ⟨rfl, rfl, ⟨po, pn, pc⟩, hbt, hus, hkc⟩ := hcut
          dsimp only [slV] at hbt hus
          obtain ⟨e0, e1, e2, e3, e4, e5, e6, e7, e8, _⟩ := cells9 hbt
          have hL : (gA n tg j).length = j := gA_len n tg j
          have HX := Bx.mk (And.intro hkc (And.intro hus HE.out.1.lt))
          have hws := HE.out.2.size
          have hwc := hkc.size
          clear hbt hus hkc
          go_wp2_with (at_builtin
                       obtain ⟨xs, hown, hpush⟩ := ((HE.out.1.keep0 ActG.keeps HX.out.1).keep0 ActG.keeps (Keep.alloc wc (.cells #[.string (gN j), .slice po pn pc, .bool false, .slice none 0 0, .slice none 0 0, .int .i64 0, .string ⟨#[]⟩, .slice none 0 0, .slice none 0 0] 32) NoB)).opened ActG.keeps
                       rw [hL] at hown hpush
                       refine wpList_append_lies _ rfl _ _ 22 rfl w.heap.size 32 iU _ 9 168 Tryz.underlying22 HU.out.1 HU.out.2.1 HU.out.2.2.1 HU.out.2.2.2 rfl (by omega) (.slice oo j oc) j xs rfl hown ⟨wc.heap.size, 0, none⟩ 1 1 [.string (gN j), .slice po pn pc, .bool false, .slice none 0 0, .slice none 0 0, .int .i64 0, .string ⟨#[]⟩, .slice none 0 0, .slice none 0 0] rfl rfl
                         (World.news_of_block (cs := #[.string (gN j), .slice po pn pc, .bool false, .slice none 0 0, .slice none 0 0, .int .i64 0, .string ⟨#[]⟩, .slice none 0 0, .slice none 0 0]) (t := 32) (fr := (0, 0)) (heap_alloc_new wc _)) (by simp [Value.oneCell']) (by omega) (by unfold maxLen; omega) (by omega) ?c5 (wc.heap.size + 1) (by simp) ?_
                       case c5 => rw [World.size_alloc]; omega
                       intro gg cap w8 hown8 hgrow hgat hglt
                       obtain ⟨hr8, hk8⟩ := hpush gg cap w8 (gN j, ⟨gPar n tg j, none⟩) [.string (gN j), .slice po pn pc, .bool false, .slice none 0 0, .slice none 0 0, .int .i64 0, .string ⟨#[]⟩, .slice none 0 0, .slice none 0 0] rfl
                         ⟨(po, pn, pc), rfl, UidsAt.keep.k (Keep.alloc _ _ NoB) (fun _ _ h => h.elim) (fun i hi h => by
                           show i < _
                           rcases h with h | h
                           · exact (HX.out.2.2 i h).2
                           · omega) HX.out.2.1⟩ hown8 hgrow (by simpa using hgat)
                       have H8 := Bx.mk (And.intro hr8 hk8)
                       clear hr8 hk8 hown8 hgrow hgat hglt hown hpush e0 e1 e2 e3 e4 e5 e6 e7 e8)
          go_roundg (gk - 1)
          case measure => omega
          case rel =>
            obtain ⟨hr8, hk8⟩ := H8.out
            exact ⟨j + 1, by omega, by go_num, by rw [gA_snoc]; exact hr8, ((HE.out.2.then HX.out.1).then (Keep.alloc _ _ _)).trans hk8 (fun _ _ h => h) (fun i hi h => by have := (HX.out.2.2 i h).1; omega)⟩
      · obtain rfl : n = j := by omega
        have htg50 : ∀ b', tg = some b' → b' < 50 := fun b' h => by
          have h1 := HT.out
          rw [h] at h1
          cases cir
          · cases h1
          · cases h1; omega
        obtain ⟨oo', oc', hsh, hga⟩ := GivenA.ofRow hn50 htg50 HE.out.1
        cases hsh
        have hall := gr_all wr hss hga rfl
        have HI := Bx.mk (And.intro (fun h => implResolve_c _ NoB (gL s n tg) (gD n tg) (some ⟨wr.heap.size, 0, none⟩) 1 hall 1 h _ (Keep.refl _ _)) (Keep.alloc wr (.cells #[.string s, .slice none 0 0, .slice none 0 0, .slice oo n oc, .slice none 0 0] 44) NoB))
        have HGA := Bx.mk hga
        clear hall hga hj htg50
        go_wp2_with fail
        cases cir
        · obtain rfl : tg = none := by simpa using HT.out
          refine (HI.out.1 (gr_ok hn50)).mono ?_
          intro e w4 hpost
          obtain ⟨lA, sE, sN, ⟨ao, an, ac⟩, rfl, ⟨hal, hrows⟩, hlen, hlA, k4⟩ := gr_postN hn50 hpost
          replace hal : an = lA.length := hal
          rw [hlen] at hal
          have hal' : n = an := hal.symm
          subst hal'
          rcases hrows with h | ⟨rb, ro, hao, -, hrows⟩
          · rw [h] at hlen; simp at hlen; omega
          replace hao : ao = some ⟨rb, ro, none⟩ := hao
          subst hao
          rcases HGA.out.act with h | ⟨lb, lo, hoo, hgiv⟩
          · have := gA_len n none n
            rw [h] at this; simp at this; omega
          replace hoo : oo = some ⟨lb, lo, none⟩ := hoo
          subst hoo
          have HW := Bx.mk (And.intro hrows (And.intro hlen (And.intro hlA (And.intro hgiv (And.intro k4 (HI.out.2.then k4))))))
          clear hpost hrows hlen hlA hgiv k4 HI hal
          obtain ⟨O5, hO5⟩ : ∃ O5 : Obj, O5 = .cells #[.slice sE.1 sE.2.1 sE.2.2, .slice sN.1 sN.2.1 sN.2.2, .slice (some ⟨rb, ro, none⟩) n ac] 39 := ⟨_, rfl⟩
          have h5 := (MapKept.heap_alloc w4 O5).1
          have HB5 := Bx.mk (show ∀ x, Keep NoB (w4.alloc O5) x → x.cell? ⟨w4.heap.size, 2, none⟩ = some (.slice (some ⟨rb, ro, none⟩) n ac) from fun x kx => by
            have h1 := kx.heap h5 (NoB.not _)
            rw [hO5] at h1
            rw [cell_cells h1]; rfl)
          have K5 := Bx.mk (Keep.alloc w4 O5 NoB)
          clear h5
          go_wp2_with fail
          rw [← hO5]
          clear hO5
          obtain ⟨w5, hw5⟩ : ∃ w5, w5 = w4.alloc O5 := ⟨_, rfl⟩
          rw [← hw5] at HB5 K5 ⊢
          clear hw5
          go_loopg [18] n (fun g s18 wx => ∃ q : Nat, q + g = n ∧ s18 = .int .i64 q ∧ Keep NoB w5 wx)
          case atStart => exact ⟨0, by omega, rfl, Keep.refl _ _⟩
          case round =>
            obtain ⟨q, hq, rfl, hkx⟩ := hrel
            have HX := Bx.mk hkx
            clear hkx
            by_cases hqn : q < n
            · obtain ⟨hrows, hlen, hlA, hgiv, k4, -⟩ := HW.out
              obtain ⟨⟨u, oa⟩, hla⟩ : ∃ x, lA[q]? = some x := ⟨_, List.getElem?_eq_getElem (by omega)⟩
              obtain ⟨rfl, hpar⟩ := hlA q u oa hla
              obtain ⟨cs, -, hcs, ⟨po, pn, pc⟩, ⟨qo, qn, qc⟩, ⟨zo, tn, tc⟩, ⟨xo, xn, xc⟩, rfl, hoa⟩ := hrows q _ hla
              obtain ⟨ab, hab⟩ : ∃ ab, ab = oa.app.isSome := ⟨_, rfl⟩
              dsimp only [slV] at hcs
              rw [show (gU s q).1 = ty from HTY.out.symm, show (gU s q).2 = gN q from rfl, ← hab] at hcs
              have k4x : Keep NoB w4 wr := K5.out.then HX.out
              have hc := hcs.keep k4x (NoB.not _)
              have n0 := hc 0 _ rfl
              have n1 := hc 1 _ rfl
              have n2 := hc 2 _ rfl
              have n3 := hc 3 _ rfl
              have n4 := hc 4 _ rfl
              have n5 := hc 5 _ rfl
              have n6 := hc 6 _ rfl
              rw [Nat.add_zero] at n0
              have c5 := HB5.out wr HX.out
              obtain ⟨_, _, _, _, _, _, _, _, hgc, -⟩ := hgiv q (gN q) ⟨gPar n none q, none⟩ (gA_get n none hqn)
              have kg := HW.out.2.2.2.2.2.then k4x
              obtain ⟨O7, hO7⟩ : ∃ O7 : Obj, O7 = .cells #[.string ty, .string (gN q), .slice po pn pc, .bool ab, .slice qo qn qc, .slice zo tn tc, .slice xo xn xc] 48 := ⟨_, rfl⟩
              obtain ⟨wv, hwv⟩ : ∃ wv, wv = wr.alloc O7 := ⟨_, rfl⟩
              have kv : Keep NoB wr wv := hwv ▸ Keep.alloc _ _ _
              have hbv : wv.heap[wr.heap.size]? = some (.cells #[.string ty, .string (gN q), .slice po pn pc, .bool ab, .slice qo qn qc, .slice zo tn tc, .slice xo xn xc] 48 (0, 0)) := by
                rw [hwv, hO7]; exact (MapKept.heap_alloc wr _).1
              have hup := hoa.par
              dsimp only [slV] at hup
              have HV := Bx.mk (And.intro hO7 (And.intro hwv kv))
              obtain ⟨⟨v0, v1, v2, -⟩, -⟩ := cells7 hbv
              have m0 := hgc.keep (kg.then kv) (NoB.not _) 0 _ rfl
              rw [Nat.add_zero] at m0
              have hwq : wrap64 ((q : Int) + 1) = (q : Int) + 1 := by unfold wrap64; omega
              by_cases h1 : q + 1 < n
              · obtain ⟨_, _, _, _, _, _, _, _, hgc1, -⟩ := hgiv (q + 1) (gN (q + 1)) ⟨gPar n none (q + 1), none⟩ (gA_get n none h1)
                have m1 := hgc1.keep (kg.then kv) (NoB.not _) 0 _ rfl
                rw [Nat.add_zero] at m1
                rw [hpar, if_pos h1] at hup
                obtain ⟨rfl, pb, pf, rfl, hpc⟩ := uids1 hup
                rw [show (gU s (q + 1)).1 = ty from HTY.out.symm, show (gU s (q + 1)).2 = gN (q + 1) from rfl] at hpc
                have hpv := hpc.keep (k4x.then kv) (NoB.not _)
                have l0 := hpv 0 _ rfl
                have l1 := hpv 1 _ rfl
                rw [Nat.add_zero] at l0
                have HF := Bx.mk (And.intro v0 (And.intro v1 (And.intro v2 (And.intro m0 (And.intro m1 (And.intro l0 l1))))))
                clear hrows hlen hlA hgiv k4 hla hpar hcs hoa hab k4x hc hgc kg hO7 hwv kv hbv hup hgc1 hpc hpv v0 v1 v2 m0 m1 l0 l1
                go_upto_region 24 with fail
                have hO7' := HV.out.1
                have hwv' := HV.out.2.1
                rw [← hO7', ← hwv']
                clear hO7' hwv' n0 n1 n2 n3 n4 n5 n6 c5
                obtain ⟨v0, v1, v2, m0, m1, l0, l1⟩ := HF.out
                have hqi : (q : Int) < (n : Int) := by omega
                have h1i : (q : Int) + 1 < (n : Int) := by omega
                have h1e : ((q : Int) + 1 == (n : Int)) = false := by rw [beq_eq_false_iff_ne]; omega
                have h1d : decide ((q : Int) + 1 = (n : Int)) = false := decide_eq_false (by omega)
                refine wp_region_quiet_lit (by kernel_rfl) (by kernel_rfl) ?_
                refine quiet_to ?a5 ?q5 ?r5
                case q5 =>
                  intro Q' hQ'
                  repeat (go_big_quiet_step (fail))
                  exact hQ'
                case r5 =>
                intro _ hw'
                obtain ⟨nq, hw''⟩ := hw'
                subst hw''
                go_wp2_with fail
                go_roundg (gk - 1)
                case measure => omega
                case rel => exact ⟨q + 1, by omega, by go_num, (HX.out.then HV.out.2.2).then (Keep.drewN _ _ _)⟩
              · have h2 : q + 1 = n := by omega
                rw [hpar, if_neg h1] at hup
                obtain rfl := uids0 hup
                have HF := Bx.mk (And.intro v0 (And.intro v1 (And.intro v2 m0)))
                clear hrows hlen hlA hgiv k4 hla hpar hcs hoa hab k4x hc hgc kg hO7 hwv kv hbv hup v0 v1 v2 m0
                go_upto_region 24 with fail
                have hO7' := HV.out.1
                have hwv' := HV.out.2.1
                rw [← hO7', ← hwv']
                clear hO7' hwv' n0 n1 n2 n3 n4 n5 n6 c5
                obtain ⟨v0, v1, v2, m0⟩ := HF.out
                have hqi : (q : Int) < (n : Int) := by omega
                have h1i : ¬ (q : Int) + 1 < (n : Int) := by omega
                have h1l : decide ((q : Int) + 1 < (n : Int)) = false := decide_eq_false (by omega)
                have h1e : ((q : Int) + 1 == (n : Int)) = true := by rw [beq_iff_eq]; omega
                have h1d : decide ((q : Int) + 1 = (n : Int)) = true := decide_eq_true (by omega)
                have h1f : (q : Int) + 1 = (n : Int) := by omega
                refine wp_region_quiet_lit (by kernel_rfl) (by kernel_rfl) ?_
                refine quiet_to ?a6 ?q6 ?r6
                case q6 =>
                  intro Q' hQ'
                  repeat (go_big_quiet_step (fail))
                  exact hQ'
                case r6 =>
                intro _ hw'
                obtain ⟨nq, hw''⟩ := hw'
                subst hw''
                go_wp2_with fail
                go_roundg (gk - 1)
                case measure => omega
                case rel => exact ⟨q + 1, by omega, by go_num, (HX.out.then HV.out.2.2).then (Keep.drewN _ _ _)⟩
            · obtain rfl : n = q := by omega
              have HXX := Bx.mk (((HE.out.2.then HW.out.2.2.2.2.2).then K5.out).then HX.out)
              go_wp2_with fail
              go_ret
              exact ⟨rfl, HXX.out⟩
        · obtain rfl : tg = some (b % n) := by simpa using HT.out
          refine (HI.out.1 (gr_ok hn50)).mono ?_
          intro e w4 hpost
          obtain ⟨rfl, k4⟩ := gr_postS hn50 hbn hpost
          have K4 := Bx.mk k4
          clear k4 hpost
          go_wp2_with (go_at_call 7; refine (schemaTypes_c _).mono ?_; rintro e w5 ⟨rfl, k5⟩; have K5 := Bx.mk k5; clear k5)
          go_ret
          exact ⟨rfl, (((HE.out.2.then HI.out.2).then K4.out).then (Keep.alloc _ _ _)).then K5.out⟩
end Go.Proofs.YtedgonoeeeiilaaGreatDoor
