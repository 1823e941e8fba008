/- The walks of the functions that tell what a resolved schema means. -/
import Derived.Test.YtedgonoeeeiilaaGreatDoorIr
namespace Go.Proofs.YtedgonoeeeiilaaGreatDoor
open Go.RowKit

theorem infoStr9 : (Tryz.prog.info? 9).map (fun i => (i.zero, i.size, i.bytes)) = some (some (.string ⟨#[]⟩), 1, 16) := by kernel_rfl

set_option maxRecDepth 100000 in
set_option maxHeartbeats 4000000 in
theorem meantNames_c (w : World) (M : Nat → Prop) (l : List Str) (ov : Option Addr) (c : Nat) (hl : l.length ≤ 1000000) (h : StrsAt w M l (.slice ov l.length c)) :
    Calls Tryz.prog 15 #[.slice ov l.length c] w fun e w' => ∃ o n c', e = .returned (.slice o n c') ∧ StrsAt w' (· < w.heap.size) l (.slice o n c') ∧ Keep NoB w w' := by
  obtain ⟨iU, hiU, hzU, hsU, hbU⟩ := info_parts infoStr9
  have HU := Lib.hid (And.intro hiU (And.intro hzU (And.intro hsU hbU)))
  obtain ⟨n, hne⟩ : ∃ n, n = l.length := ⟨_, rfl⟩
  rw [← hne] at h hl ⊢
  have HA := Lib.hid (And.intro hne h)
  clear hne h hiU hzU hsU hbU
  go_enter Tryz.func15, Tryz.ntmps15
  go_wp2_with fail
  go_loopg [3, 8] n (fun k sl i wr => ∃ j : Nat, j + k = n ∧ i = .int .i64 j ∧ Keep NoB w wr ∧ wr.ownsRow w.heap.size 9 1 sl j ((l.take j).map Value.string))
  case atStart => exact ⟨0, by omega, rfl, Keep.refl _ _, rfl, .inl ⟨rfl, rfl⟩⟩
  case round =>
    obtain ⟨j, hj, rfl, hk, hown⟩ := hrel
    have HR := Lib.hid (And.intro hk hown)
    clear hk hown
    by_cases hlt : j < n
    · obtain ⟨hne, h⟩ := HA.out
      obtain ⟨hk, hown⟩ := HR.out
      obtain ⟨ov', c2, he, h⟩ := h
      simp only [Value.slice.injEq] at he
      obtain ⟨rfl, hx, rfl⟩ := he
      clear hx
      rcases h with h0 | ⟨bv, offv, rfl, hMv, hcell⟩
      · omega
      have hcv := (hcell j (by omega)).2.keep hk (NoB.not _) 0 _ rfl
      simp only [Nat.mul_one, Nat.add_zero] at hcv
      obtain ⟨vj, hvj⟩ : ∃ vj, vj = l.getD j ⟨#[]⟩ := ⟨_, rfl⟩
      rw [← hvj] at hcv
      have HV := Lib.hid (And.intro hvj hne)
      clear hne hcell hk hown hvj hMv
      obtain ⟨w3, rfl⟩ : ∃ w3 : World, w3 = wr := ⟨_, rfl⟩
      go_wp2_with (at_builtin; refine wpList_append_own _ rfl _ _ 26 rfl w.heap.size 9 iU _ 1 16 Tryz.underlying26 HU.out.1 HU.out.2.1 HU.out.2.2.1 HU.out.2.2.2 rfl (by decide) _ _ _ rfl (HR.out.2.alloc _) ⟨w3.heap.size, 0, none⟩ 1 1 [.string vj] rfl rfl ?c1 ?c2 ?c3 ?c4 ?c5 ?_)
      case c1 =>
        intro q u hq
        rcases q with _ | q
        · cases hq; exact cell_cells (MapKept.heap_alloc w3 _).1 0
        · cases hq
      case c2 => intro u hu; simp only [List.mem_singleton] at hu; subst hu; rfl
      case c3 => unfold maxLen; omega
      case c4 => omega
      case c5 =>
        have h1 := HR.out.1.size
        rw [World.size_alloc]; omega
      intro v' w4 hown4 hgrow _
      obtain ⟨g, cap, rfl⟩ := owns_some hown4
      have kg := grown_keep HR.out.2 hgrow
      have HG := Lib.hid (And.intro hown4 kg)
      clear hown4 hgrow kg hcv
      go_wp2_with fail
      go_roundg (gk - 1)
      case measure => omega
      case rel =>
        obtain ⟨hown4, kg⟩ := HG.out
        refine ⟨j + 1, by omega, by go_num, (HR.out.1.trans ((Keep.alloc w3 (.cells #[.string vj] 9) NoB).first kg) (fun _ _ h => h) (fun i hi h => by omega)), ?_⟩
        have hjl : j < l.length := by have := HV.out.2; omega
        have hv : vj = l[j] := by rw [HV.out.1, List.getD_eq_getElem?_getD, List.getElem?_eq_getElem hjl]; rfl
        rw [List.take_succ_eq_append_getElem hjl, List.map_append, ← hv, List.map_take]
        exact hown4
    · have hjn : j = n := by omega
      subst hjn
      obtain ⟨hk, hown⟩ := HR.out
      obtain ⟨o, nn, cc, hsl⟩ : ∃ o nn cc, _ = Value.slice o nn cc := by
        rcases hown.2 with ⟨h, _⟩ | ⟨g, cap, cur, h, _⟩ <;> exact ⟨_, _, _, h⟩
      subst hsl
      clear hk hown
      go_wp2_with fail
      go_ret
      obtain ⟨hk, hown⟩ := HR.out
      rw [HA.out.1, List.take_length] at hown
      exact ⟨o, nn, cc, rfl, (ownsRow_strs hown (fun i h => h)).2, hk⟩


theorem joinName_c (ns nm : Str) (w : World) (h1 : ns.size ≤ 1000000) (h2 : nm.size ≤ 1000000) :
    Calls Tryz.prog 9 #[.string ns, .string nm] w fun e w' => e = .returned (.string (qual ns nm)) ∧ w' = w := by
  by_cases h : ns = ByteArray.empty
  · subst h
    go_enter Tryz.func9, Tryz.ntmps9
    go_wp2
    go_ret
    exact ⟨rfl, rfl⟩
  · have h0 := ne_empty h
    go_enter Tryz.func9, Tryz.ntmps9
    go_wp2
    go_ret
    exact ⟨by rw [qual, if_neg h]; rfl, rfl⟩

/-- The answer: a type as it is given. -/
def MeantOut (w : World) (e : Ending) (w' : World) (k : Int) (s : Str) : Prop := ∃ el al : Sl, e = .returned (tyV k s el al) ∧ Keep NoB w w'

set_option maxRecDepth 100000 in
theorem meantType_ent_c (w : World) (s : Str) : Calls Tryz.prog 17 #[.iface 163 (.string s)] w fun e w' => MeantOut w e w' 7 s := by
  have t0 := taN_rStr 163 (by decide) (.string s)
  have t1 := taN_rLong 163 (by decide) (.string s)
  have t2 := taN_rBool 163 (by decide) (.string s)
  have t3 := taN_rExt 163 (by decide) (.string s)
  have t4 := taN_rSet 163 (by decide) (.string s)
  have t5 := taN_rRec 163 (by decide) (.string s)
  have t9 := taY_rEnt (.string s)
  go_enter Tryz.func17, Tryz.ntmps17
  go_wp2_with fail
  refine bodyPost_ret (v := tyV 7 s (none, 0, 0) (none, 0, 0)) ?_ rfl ⟨(none, 0, 0), (none, 0, 0), rfl, Keep.alloc _ _ _⟩
  simp [results, Tryz.results17, go_sem, Result.andThen]
end Go.Proofs.YtedgonoeeeiilaaGreatDoor
