/- The walk of detectCommonTypeCycles: Kahn's algorithm over the common types. -/
import Derived.Test.YtedgonoeeeiilaaGreatDoorJCy
import Derived.Test.YtedgonoeeeiilaaGreatDoorLoop
import Derived.Test.YtedgonoeeeiilaaGreatDoorWi
import Derived.Deep.AppendLies
namespace Go.Proofs.YtedgonoeeeiilaaGreatDoor
open Go.RowKit

theorem infoPath : (Tryz.prog.info? 141).map (fun i => (i.zero, i.size, i.bytes)) = some (some (.string ⟨#[]⟩), 1, 16) := by kernel_rfl
theorem zeroPaths (w : World) : (zeroValue 259).run Tryz.prog w = .ok (.slice none 0 0) w := by kernel_rfl
theorem DMap.lookup {w : World} {M : Nat → Prop} {d : Nat} {C : List Str} {dp : Str → List Str} (h : DMap w M d C dp) (x : Str) :
    ∃ o c, (Instr.lookup 254 (.map (some d)) (.string x) false).run Tryz.prog w = .ok (.slice o (dp x).length c) w ∧ StrsAt w M (dp x) (.slice o (dp x).length c) := by
  obtain ⟨ld, h1, h2, h3⟩ := h
  have hl := h1.lookup (strKey Tryz.underlying141) Tryz.underlying254 (zeroPaths w) x false
  cases hk : kget ld x with
  | none =>
    have h0 : dp x = [] := h2 x fun hx => by
      obtain ⟨p, hp, rfl⟩ := List.mem_map.1 hx
      rw [kget_mem h1.nodup hp] at hk; cases hk
    refine ⟨none, 0, by rw [hl, hk, h0]; rfl, none, 0, rfl, .inl (by rw [h0]; rfl)⟩
  | some v =>
    obtain ⟨_, h4⟩ := h3 x v (kget_some hk)
    have h4' := h4
    obtain ⟨o, c, rfl, _⟩ := h4
    exact ⟨o, c, by rw [hl, hk]; rfl, h4'⟩

/-- The first loop: the lists of the names that have been met. -/
structure L1 (V : Env) (w wr : World) (mC : Nat) (lv left : List (Str × Value)) (ld : List (Str × Value)) (dp : Str → List Str) : Prop where
  it : KIter Value.string wr (some mC) (w.heap.size + 1) lv left
  keep : Keep NoB w wr
  size : w.heap.size + 2 ≤ wr.heap.size
  map : KMap Value.string wr w.heap.size ld
  none : ∀ n, kget ld n = none → dp n = []
  met : ∀ n v, kget ld n = some v → n ∈ V.C.map (·.1) ∧ n ∉ left.map (·.1) ∧ StrsAt wr (· < w.heap.size + 2) (dp n) v
  mem : ∀ n, n ∈ V.C.map (·.1) → n ∉ left.map (·.1) → ∀ p, p ∈ dp n ↔ Edge V n p
  len : ∀ n, (dp n).length ≤ 1000000
/-- The loop within it: the names of one type. -/
structure L2 (V : Env) (wi wx : World) (d : Nat) (ld : List (Str × Value)) (n : Str) (rs : List Str) (j : Nat) (dpn : List Str) (vr : Value) : Prop where
  keep : Keep (· = d) wi wx
  map : ∃ ld', KMap Value.string wx d ld' ∧ ∀ x, kget ld' x = if x = n then (if dpn = [] then none else some vr) else kget ld x
  row : wx.ownsRow wi.heap.size 141 1 vr dpn.length (dpn.map Value.string)
  mem : ∀ p, p ∈ dpn ↔ ∃ r ∈ rs.take j, p = pathOf V (nsOf n) r ∧ p ∈ V.C.map (·.1)
  len : dpn.length ≤ j
  nil : dpn = [] → vr = .slice none 0 0

/-- The third loop: a number for each name. -/
structure L3 (V : Env) (w1 wx : World) (mC : Nat) (lv left : List (Str × Value)) (Cs : List Str) : Prop where
  it : KIter Value.string wx (some mC) (w1.heap.size + 1) lv left
  keep : Keep NoB w1 wx
  map : IMap wx w1.heap.size Cs (fun _ => 0)
  mem : ∀ x, x ∈ Cs ↔ x ∈ lv.map (·.1) ∧ x ∉ left.map (·.1)
/-- The fourth loop: the lists that have been counted. -/
structure L4 (w3 wx : World) (d g : Nat) (C : List Str) (dp : Str → List Str) (ld left : List (Str × Value)) (D : Str → Int) (done : List Str) : Prop where
  it : KIter Value.string wx (some d) w3.heap.size ld left
  keep : Keep (· = g) w3 wx
  map : IMap wx g C D
  perm : (done ++ left.map (·.1)).Perm (ld.map (·.1))
  deg : ∀ x, D x = (indeg dp done x : Nat)
/-- The sixth loop: the queue. -/
structure L6 (w5 wx : World) (g : Nat) (lg left : List (Str × Value)) (D : Str → Int) (Q : List Str) (v : Value) : Prop where
  it : KIter Value.string wx (some g) w5.heap.size lg left
  keep : Keep NoB w5 wx
  row : QIs wx (w5.heap.size + 1) 141 v (Q.map Value.string)
  nod : Q.Nodup
  mem : ∀ x, x ∈ Q ↔ x ∈ lg.map (·.1) ∧ x ∉ left.map (·.1) ∧ D x = 0
theorem L6.len {w5 wx : World} {g : Nat} {lg left : List (Str × Value)} {D : Str → Int} {Q : List Str} {v : Value} (h : L6 w5 wx g lg left D Q v) : Q.length ≤ lg.length := by
  have := length_le_of_subset h.nod (b := lg.map (·.1)) fun x hx => ((h.mem x).1 hx).1
  simpa using this
/-- The seventh loop. -/
structure L7 (w6 wx : World) (g base : Nat) (C : List Str) (dp : Str → List Str) (D : Str → Int) (Q P left : List Str) (v : Value) : Prop where
  keep : Keep (fun i => i = g ∨ base ≤ i) w6 wx
  map : IMap wx g C D
  row : QIs wx base 141 v (Q.map Value.string)
  st : KSt C dp D Q P left

/-- The answer. -/
def CycOut (V : Env) (e : Ending) : Prop := (e = .returned .nilIface ∧ Acyc V) ∨ ((∃ a, e = .returned (.iface 296 (.pointer (some a)))) ∧ ¬ Acyc V)

set_option maxRecDepth 100000 in
set_option maxHeartbeats 16000000 in
theorem detectCycles_c (w : World) (M : Nat → Prop) (b mE mN mC : Nat) (V : Env) (hS : RS w M b mE mN mC V) (hL : V.C.length ≤ 1000000) (hz : ∀ n ∈ V.C.map (·.1), n.size ≤ 1000000)
    (hcoll : ∀ n t v, (n, t) ∈ V.C → ATyIs w (RSD M mE mN mC) t v → ∀ x, Keep NoB w x → Calls Tryz.prog 80 #[v] x (RefsOut x t)) :
    Calls Tryz.prog 53 #[.pointer (some ⟨b, 0, none⟩)] w fun e w' => CycOut V e ∧ Keep NoB w w' := by
  obtain ⟨iU, hiU, hzU, hsU, hbU⟩ := info_parts infoPath
  have HU := Lib.hid (And.intro hiU (And.intro hzU (And.intro hsU hbU)))
  clear hiU hzU hsU hbU
  obtain ⟨lv, hm, hR⟩ := hS.commons
  have hmm := @run_makeMap Tryz.prog
  have k0 : Keep NoB w (w.alloc (.map #[] 0)) := Keep.alloc _ _ _
  have hd0 : KMap Value.string (w.alloc (.map #[] 0)) w.heap.size [] := KMap.made w
  obtain ⟨o1, hr1, hi1⟩ := KMapO.range (m := some mC) (hm.keep k0 (NoB.not _)) Tryz.underlying207
  have k1 := k0.then (Keep.alloc (w.alloc (.map #[] 0)) o1 NoB)
  have ca := k0.cell hS.c2 (NoB.not _)
  rw [show (w.alloc (.map #[] 0)).heap.size = w.heap.size + 1 by simp] at hi1
  have HI := Lib.hid (And.intro hi1 (And.intro k1 (hd0.keep (Keep.alloc _ o1 NoB) (NoB.not _))))
  have HA := Lib.hid (And.intro hS (And.intro hL (And.intro hz (And.intro hcoll (And.intro hm hR)))))
  clear hS hL hz hcoll hm hR k0 hd0 hi1 k1
  go_enter Tryz.func53, Tryz.ntmps53
  go_wp2_with fail
  clear hmm hr1 ca
  go_loopg [] lv.length (fun k wr => ∃ left ld dp, left.length = k ∧ L1 V w wr mC lv left ld dp)
  case atStart =>
    refine ⟨lv, [], fun _ => [], rfl, HI.out.1, HI.out.2.1, by simp, HI.out.2.2, fun _ _ => rfl, fun _ _ h => by simp [kget] at h, fun n hn hl => ?_, fun _ => by simp⟩
    exfalso
    obtain ⟨p, hp, rfl⟩ := List.mem_map.1 hn
    obtain ⟨v, hv, _⟩ := HA.out.2.2.2.2.2.rel p.1 p.2 hp
    exact hl (List.mem_map.2 ⟨_, hv, rfl⟩)
  case round =>
    obtain ⟨left, ld, dp, e1, hF⟩ := hrel
    have HF := Lib.hid (And.intro e1 hF)
    clear HI e1 hF
    rcases HF.out.2.it.next (P := Tryz.prog) (fun h => by cases h; rfl) 0 with ⟨rfl, hnext⟩ | ⟨p, lf, w', hp, hnext, hentry, hit', hk', hsz'⟩
    · have hL1 := HF.out.2
      have hmm := @run_makeMap Tryz.prog
      have k0 : Keep NoB wr (wr.alloc (.map #[] 0)) := Keep.alloc _ _ _
      have hm1 := HA.out.2.2.2.2.1.keep (hL1.keep.then k0) (NoB.not _)
      obtain ⟨o2, hr2, hi2⟩ := KMapO.range (m := some mC) hm1 Tryz.underlying207
      have k1 := Keep.alloc (wr.alloc (.map #[] 0)) o2 NoB
      have ca := (hL1.keep.then k0).cell HA.out.1.c2 (NoB.not _)
      rw [show (wr.alloc (.map #[] 0)).heap.size = wr.heap.size + 1 by simp] at hi2 hr2
      have hg0 : IMap (wr.alloc (.map #[] 0)) wr.heap.size [] (fun _ => 0) := ⟨[], KMap.made wr, List.Perm.refl _, fun _ _ h => by simp at h⟩
      have HI := Lib.hid (And.intro hi2 (And.intro (k0.then k1) (hg0.keep k1 (NoB.not _))))
      have HC := Lib.hid hL1
      clear hL1 k0 hm1 hi2 k1 hg0
      go_wp2_with fail
      clear hmm hr2 ca hnext
      obtain ⟨w1, hw1⟩ : ∃ x : World, x = wr := ⟨_, rfl⟩
      subst hw1
      go_loopg [] lv.length (fun k wx => ∃ left Cs, left.length = k ∧ L3 V w1 wx mC lv left Cs)
      case atStart => exact ⟨lv, [], rfl, HI.out.1, HI.out.2.1, HI.out.2.2, fun x => ⟨fun h => by simp at h, fun h => (h.2 h.1).elim⟩⟩
      case round =>
        obtain ⟨left, Cs, e1, hF3⟩ := hrel
        have H3 := Lib.hid (And.intro e1 hF3)
        clear e1 hF3
        rcases H3.out.2.it.next (P := Tryz.prog) (fun h => by cases h; rfl) 0 with ⟨rfl, hnext⟩ | ⟨p, lf, w', hp, hnext, hentry, hit', hk', hsz'⟩
        · have hF3 := H3.out.2
          obtain ⟨w3, hw3⟩ : ∃ x : World, x = wr := ⟨_, rfl⟩
          subst hw3
          obtain ⟨C, hC⟩ : ∃ C, C = V.C.map (·.1) := ⟨_, rfl⟩
          have hCn : C.Nodup := hC ▸ HA.out.2.2.2.2.2.nodup
          have hlC : ∀ x, x ∈ lv.map (·.1) ↔ x ∈ C := fun x => by rw [hC]; exact (HA.out.2.2.2.2.2.back HA.out.2.2.2.2.1.nodup).2.mem_iff
          have hI3 : IMap w3 w1.heap.size C (fun _ => 0) := hF3.map.perm ((List.perm_ext_iff_of_nodup hF3.map.nodup hCn).2 fun x => by rw [hF3.mem, ← hlC]; simp) (fun _ _ => rfl)
          obtain ⟨g, hg⟩ : ∃ g, g = w1.heap.size := ⟨_, rfl⟩
          have hg3 : g < w3.heap.size := by
            obtain ⟨lg, h1, _⟩ := hI3
            rw [hg]; exact h1.lt
          have hd3 : w.heap.size < g := by rw [hg]; have := HC.out.size; omega
          have hmd3 := HC.out.map.keep hF3.keep (NoB.not _)
          obtain ⟨o4, hr4, hi4⟩ := KMapO.range (m := some w.heap.size) hmd3 Tryz.underlying254
          have k4 := Keep.alloc w3 o4 NoB
          rw [← hg] at hI3 hnext ⊢
          -- the lists, as they stay
          have hdp : ∀ n ∈ C, ∀ p, p ∈ dp n ↔ Edge V n p := fun n hn p => HC.out.mem n (hC ▸ hn) (by simp) p
          have hdpC : ∀ n p, p ∈ dp n → p ∈ C := fun n p hp => by
            cases h : kget ld n with
            | none => rw [HC.out.none n h] at hp; simp at hp
            | some v =>
              have h1 := (HC.out.met n v h).1
              obtain ⟨_, _, _, _, _, h5⟩ := (hdp n (hC ▸ h1) p).1 hp
              exact hC ▸ h5
          have hDM : DMap w3 (fun i => i < w.heap.size + 2 ∨ w1.heap.size ≤ i) w.heap.size C dp := by
            have h0 : DMap w1 (fun i => i < w.heap.size + 2) w.heap.size C dp := ⟨ld, HC.out.map, fun n hn => HC.out.none n (kget_none fun p hp e => hn (List.mem_map.2 ⟨p, hp, e⟩)), fun n v hv => by
              obtain ⟨h1, _, h2⟩ := HC.out.met n v (kget_mem HC.out.map.nodup hv)
              exact ⟨hC ▸ h1, h2⟩⟩
            have h1 : DMap w1 (fun i => i < w.heap.size + 2 ∨ w1.heap.size ≤ i) w.heap.size C dp := h0.keep (Keep.refl NoB _) (NoB.not _) (fun _ _ h => h.elim) (fun i hi h => h.elim id fun h => by omega)
            exact h1.keep hF3.keep (NoB.not _) (fun _ _ h => h.elim) (fun _ _ h => h)
          have hldC : ∀ n v, (n, v) ∈ ld → n ∈ C ∧ StrsAt w3 (fun i => i < w.heap.size + 2 ∨ w1.heap.size ≤ i) (dp n) v := fun n v hv => by
            obtain ⟨h1, _, h2⟩ := HC.out.met n v (kget_mem HC.out.map.nodup hv)
            exact ⟨hC ▸ h1, StrsAt.keep.k hF3.keep (fun _ _ h => h.elim) (fun i hi h => h) (StrsAt.keep.k (Keep.refl NoB _) (fun _ _ h => h.elim) (fun i hi h => h.elim id fun h => by omega) h2)⟩
          have hlen : C.length ≤ 1000000 := by rw [hC, List.length_map]; exact HA.out.2.1
          rw [← hg] at hDM hldC
          have HD := Lib.hid (And.intro hCn (And.intro hdp (And.intro hdpC (And.intro hDM (And.intro hldC (And.intro HC.out.len (And.intro HC.out.map.nodup (And.intro hC hlen))))))))
          have HI4 := Lib.hid (And.intro hi4 (And.intro k4 (hI3.keep k4 (NoB.not _))))
          have HK3 := Lib.hid (HC.out.keep.then hF3.keep)
          clear hF3 hI3 hmd3 hi4 k4 hCn hdp hdpC hDM hldC hlen hlC hC
          have HG := Lib.hid hg
          clear hg HI
          go_wp2_with fail
          clear hr4 hnext
          go_loopg [] ld.length (fun k wx => ∃ left D done, left.length = k ∧ L4 w3 wx w.heap.size g C dp ld left D done)
          case atStart => exact ⟨ld, fun _ => 0, [], rfl, HI4.out.1, HI4.out.2.1.mono (fun _ _ h => h.elim), HI4.out.2.2, List.Perm.refl _, fun _ => rfl⟩
          case round =>
            obtain ⟨left, D, done, e1, hF4⟩ := hrel
            have H4 := Lib.hid (And.intro e1 hF4)
            clear e1 hF4
            rcases H4.out.2.it.next (P := Tryz.prog) (fun h => by cases h; rfl) 0 with ⟨rfl, hnext⟩ | ⟨p, lf, w', hp, hnext, hentry, hit', hk', hsz'⟩
            · have hF4 := H4.out.2
              have hD0 : ∀ x, D x = (indeg dp C x : Nat) := fun x => by
                rw [hF4.deg x, indeg_perm (show done.Perm (ld.map (·.1)) by have := hF4.perm; simpa using this) x]
                rw [indeg_sub HD.out.1 HD.out.2.2.2.2.2.2.1 (fun a ha => by
                  obtain ⟨⟨n', v'⟩, h7, rfl⟩ := List.mem_map.1 ha
                  exact (HD.out.2.2.2.2.1 n' v' h7).1) (fun a ha => by
                  exact HC.out.none a (kget_none fun p hp e => ha (List.mem_map.2 ⟨p, hp, e⟩))) x]
              obtain ⟨w5, hw5⟩ : ∃ x : World, x = wr := ⟨_, rfl⟩
              subst hw5
              obtain ⟨lg, hlg, hlgp, hlgv⟩ := hF4.map
              obtain ⟨o6, hr6, hi6⟩ := KMapO.range (m := some g) hlg Tryz.underlying260
              have k6 := Keep.alloc w5 o6 NoB
              have HI6 := Lib.hid (And.intro hi6 (And.intro k6 (And.intro hlg (And.intro hlgp hlgv))))
              have HK5 := Lib.hid (And.intro hF4.keep hD0)
              clear hlg hlgp hlgv hi6 k6 hF4 hD0 HI4
              go_wp2_with fail
              clear hr6 hnext
              go_loopg [19] lg.length (fun k q wx => ∃ left Q, left.length = k ∧ L6 w5 wx g lg left D Q q)
              case atStart => exact ⟨lg, [], rfl, HI6.out.1, HI6.out.2.1, QIs.nil _ _ _, List.nodup_nil, fun x => ⟨fun h => by simp at h, fun h => (h.2.1 h.1).elim⟩⟩
              case round =>
                obtain ⟨left, Q, e1, hF6⟩ := hrel
                have hrowv := hF6.row
                obtain ⟨qo, qc, hqv, _⟩ := hrowv
                rw [List.length_map] at hqv
                subst hqv
                have H6 := Lib.hid (And.intro e1 hF6)
                clear e1 hF6
                rcases H6.out.2.it.next (P := Tryz.prog) (fun h => by cases h; rfl) 0 with ⟨rfl, hnext⟩ | ⟨p, lf, w', hp, hnext, hentry, hit', hk', hsz'⟩
                · have hF6 := H6.out.2
                  obtain ⟨w6, hw6⟩ : ∃ x : World, x = wr := ⟨_, rfl⟩
                  subst hw6
                  have hgl : g < w5.heap.size := HI6.out.2.2.1.lt
                  have hIM : IMap w6 g C D := ⟨lg, HI6.out.2.2.1.keep hF6.keep (NoB.not _), HI6.out.2.2.2.1, HI6.out.2.2.2.2⟩
                  have hst : KSt C dp D Q [] [] := KSt.start HD.out.1 (fun x _ => HK5.out.2 x) hF6.nod fun x => by
                    rw [hF6.mem, HI6.out.2.2.2.1.mem_iff]; simp
                  have hk36 : Keep (fun i => i = g ∨ w5.heap.size ≤ i) w3 w6 := HK5.out.1.trans hF6.keep (fun _ _ h => .inl h) (fun _ _ h => h.elim)
                  have hDM6 : DMap w6 (fun i => i < w.heap.size + 2 ∨ g ≤ i) w.heap.size C dp := HD.out.2.2.2.1.keep hk36 (fun h => by rcases h with h | h <;> omega) (fun i _ h => .inr (by rcases h with h | h <;> omega)) (fun _ _ h => h)
                  have H7 := Lib.hid (And.intro hDM6 (And.intro hk36 (And.intro hgl hF6.it.lt)))
                  have HS7 := Lib.hid (And.intro hF6.row (And.intro hIM hst))
                  clear hF6 hIM hst hDM6 hk36 hgl
                  go_wp2_with fail
                  clear hnext
                  go_loopg [19, 22] C.length (fun k q c wx => ∃ D7 Q7 P7, P7.length + k = C.length ∧ c = .int .i64 P7.length ∧ L7 w6 wx g (w5.heap.size + 1) C dp D7 Q7 P7 [] q)
                  case atStart => exact ⟨D, Q, [], by simp, rfl, Keep.refl _ _, HS7.out.2.1, HS7.out.1, HS7.out.2.2⟩
                  case round =>
                    obtain ⟨D7, Q7, P7, hPk, rfl, hF7⟩ := hrel
                    have hrow7 := hF7.row
                    obtain ⟨qo7, qc7, hqv7, _⟩ := hrow7
                    rw [List.length_map] at hqv7
                    subst hqv7
                    have hPC : P7.length ≤ 1000000 := by
                      have h1 := hF7.st.len
                      have h2 := HD.out.2.2.2.2.2.2.2.2
                      omega
                    have HF7 := Lib.hid (And.intro hPk hF7)
                    clear hPk hF7
                    cases Q7 with
                    | nil =>
                      rw [List.length_nil]
                      have kwr : Keep NoB w wr := (HK3.out.trans H7.out.2.1 (M'' := NoB) (fun _ _ h => h) (fun i hi h => by have := H7.out.2.2.1; rcases h with h | h <;> omega)).trans HF7.out.2.keep (fun _ _ h => h) (fun i hi h => by have := H7.out.2.2.1; rcases h with h | h <;> omega)
                      have c2 := kwr.cell HA.out.1.c2 (NoB.not _)
                      have hlen := KMapO.len (m := some mC) (HA.out.2.2.2.2.1.keep kwr (NoB.not _)) Tryz.underlying207 3
                      have hlc : lv.length = C.length := by rw [HD.out.2.2.2.2.2.2.2.1, List.length_map, HA.out.2.2.2.2.2.len]
                      rw [hlc] at hlen
                      have KW := Lib.hid kwr
                      clear kwr hlc
                      have hedge : ∀ rank : Str → Nat, (∀ b ∈ C, ∀ a ∈ dp b, a ∈ C → rank b < rank a) ↔ ∀ n p, Edge V n p → rank n < rank p := fun rank => by
                        constructor
                        · intro h n p he
                          have hn : n ∈ C := by
                            obtain ⟨t, _, h1, _⟩ := he
                            rw [HD.out.2.2.2.2.2.2.2.1]; exact List.mem_map.2 ⟨_, kget_some h1, rfl⟩
                          have hp := (HD.out.2.1 n hn p).2 he
                          exact h n hn p hp (HD.out.2.2.1 n p hp)
                        · intro h b hb a ha _
                          exact h b a ((HD.out.2.1 b hb a).1 ha)
                      have HE := Lib.hid hedge
                      clear hedge
                      by_cases hpl : P7.length = C.length
                      · rw [← hpl] at hlen
                        go_wp2_with fail
                        go_ret
                        obtain ⟨rank, hr⟩ := HF7.out.2.st.all hpl HD.out.1
                        exact ⟨.inl ⟨rfl, rank, (HE.out rank).1 hr⟩, KW.out⟩
                      · have hneq : ((P7.length : Int) == (C.length : Int)) = false := beq_false_of_ne (by omega)
                        have hneq2 : ¬ (P7.length : Int) = (C.length : Int) := by omega
                        have hneq3 : ((P7.length : Int) != (C.length : Int)) = true := by unfold bne; rw [hneq]; rfl
                        obtain ⟨hnr, hpos⟩ := HF7.out.2.st.stuck HD.out.1 hpl
                        have hnA : ¬ Acyc V := fun ⟨rank, hr⟩ => hnr ⟨rank, (HE.out rank).2 hr⟩
                        obtain ⟨lg9, hlg9, hlgp9, hlgv9⟩ := HF7.out.2.map
                        obtain ⟨o9, hr9, hi9⟩ := KMapO.range (m := some g) hlg9 Tryz.underlying260
                        have k9 := Keep.alloc wr o9 NoB
                        obtain ⟨w9, hw9⟩ : ∃ x : World, x = wr := ⟨_, rfl⟩
                        subst hw9
                        have H9 := Lib.hid (And.intro hpos (And.intro hnA (And.intro hlgp9 (And.intro hlgv9 (And.intro hi9 (And.intro k9 (And.intro hlg9 HF7.out.2.map)))))))
                        clear hnr hpos hnA hlgp9 hlgv9 hi9 k9 hlg9
                        go_wp2_with fail
                        clear hr9 hlen c2 hneq hneq2 hneq3 hpl
                        go_loopg [] lg9.length (fun k wx => ∃ left, left.length = k ∧ KIter Value.string wx (some g) w9.heap.size lg9 left ∧ Keep NoB w9 wx ∧ ∀ x, x ∈ lg9.map (·.1) → x ∉ left.map (·.1) → D7 x ≤ 0)
                        case atStart => exact ⟨lg9, rfl, H9.out.2.2.2.2.1, H9.out.2.2.2.2.2.1, fun x h1 h2 => (h2 h1).elim⟩
                        case round =>
                          obtain ⟨left, e1, hit, hk, hall⟩ := hrel
                          have HL := Lib.hid (And.intro e1 (And.intro hit (And.intro hk hall)))
                          clear e1 hk hall
                          rcases hit.next (P := Tryz.prog) (fun h => by cases h; rfl) 0 with ⟨rfl, hnext⟩ | ⟨p, lf, w', hp, hnext, hentry, hit', hk', hsz'⟩
                          · exfalso
                            obtain ⟨x, hx, hxp⟩ := H9.out.1
                            have := HL.out.2.2.2 x (H9.out.2.2.1.mem_iff.2 hx) (by simp)
                            omega
                          · obtain ⟨n, v⟩ := p
                            have hpm : (n, v) ∈ lg9 := hit.sub.subset (hp.mem_iff.2 (.head _))
                            have hv := H9.out.2.2.2.1 n v hpm
                            subst hv
                            have hnC : n ∈ C := H9.out.2.2.1.mem_iff.1 (List.mem_map.2 ⟨_, hpm, rfl⟩)
                            have hkw := HL.out.2.2.1.trans hk' (M'' := NoB) (fun _ _ h => h) (fun i hi h => by omega)
                            have hlk := (H9.out.2.2.2.2.2.2.2.keep hkw (NoB.not _)).lookup hnC
                            have hkeys : ∀ y, y ∈ left.map (·.1) ↔ y = n ∨ y ∈ lf.map (·.1) := fun y => by rw [(hp.map (·.1)).mem_iff]; simp
                            have HP := Lib.hid (And.intro hp (And.intro hit' (And.intro hkw hkeys)))
                            clear hit hp hit' hk' hpm hnC hkw hkeys hsz'
                            by_cases h0 : 0 < D7 n
                            · go_wp2_with (go_at_call 76; refine (errorsNew_c _ _).mono ?_; rintro e w'' ⟨a, rfl, hke⟩)
                              go_ret
                              exact ⟨.inr ⟨⟨_, rfl⟩, H9.out.2.1⟩, (KW.out.then HP.out.2.2.1).then (by assumption)⟩
                            · go_wp2_with fail
                              go_roundg lf.length
                              case measure =>
                                have h1 := HP.out.1.length_eq
                                have h2 := HL.out.1
                                simp only [List.length_cons] at h1
                                omega
                              case rel =>
                                refine ⟨lf, rfl, HP.out.2.1, HP.out.2.2.1, fun x h1 h2 => ?_⟩
                                by_cases e : x = n
                                · rw [e]; omega
                                · exact HL.out.2.2.2 x h1 (fun h => ((HP.out.2.2.2 x).1 h).elim e h2)
                    | cons a Q8 =>
                      have hst8 := HF7.out.2.st.pop HD.out.1
                      have hrow8 := HF7.out.2.row
                      rw [List.map_cons] at hrow8
                      obtain ⟨qg, qoff, rfl, hqn, hqc1, hqc2, hqcell, qA, hqA, hrow9⟩ := hrow8.pop
                      have hDMx := H7.out.1.keep (M' := fun i => i < w.heap.size + 2 ∨ g ≤ i) HF7.out.2.keep (fun h => by have := H7.out.2.2.2; have := H7.out.2.2.1; rcases h with h | h <;> omega) (fun i _ h => .inr (by have := H7.out.2.2.1; rcases h with h | h <;> omega)) (fun _ _ h => h)
                      obtain ⟨da, dc, hlk, hds⟩ := hDMx.lookup a
                      obtain ⟨nd, hnd⟩ : ∃ nd, nd = (dp a).length := ⟨_, rfl⟩
                      rw [← hnd] at hlk hds
                      have hndL : nd ≤ 1000000 := by rw [hnd]; exact HD.out.2.2.2.2.2.1 a
                      obtain ⟨nq, hnq⟩ : ∃ nq, nq = Q8.length := ⟨_, rfl⟩
                      rw [List.length_cons, ← hnq]
                      rw [List.length_map, ← hnq] at hqc1 hrow9
                      have HP := Lib.hid (And.intro hst8 (And.intro hrow9 (And.intro hds (And.intro hnd (And.intro hnq hDMx)))))
                      clear hst8 hrow8 hrow9 hds hnd hnq hDMx hqn
                      go_wp2_with fail
                      clear hqA hlk hqcell
                      obtain ⟨w8, hw8⟩ : ∃ x : World, x = wr := ⟨_, rfl⟩
                      subst hw8
                      obtain ⟨ko, hko⟩ : ∃ x : Nat, x = gk := ⟨_, rfl⟩
                      subst hko
                      go_loopg [19, 127] nd (fun k q c wx => ∃ (j : Nat) (D8 : Str → Int) (Q9 : List Str), j + k = nd ∧ c = .int .i64 j ∧ Keep (fun i => i = g ∨ w5.heap.size + 1 ≤ i) w8 wx ∧ IMap wx g C D8 ∧ QIs wx (w5.heap.size + 1) 141 q (Q9.map Value.string) ∧ KSt C dp D8 Q9 (P7 ++ [a]) ((dp a).drop j))
                      case atStart =>
                        refine ⟨0, D7, Q8, by omega, rfl, Keep.refl _ _, HF7.out.2.map, ?_, HP.out.1⟩
                        rw [HP.out.2.2.2.2.1]
                        have h1 := HP.out.2.1
                        rw [HP.out.2.2.2.2.1] at h1
                        exact h1
                      case round =>
                        obtain ⟨j, D8, Q9, hj, rfl, hk8, hm8, hrow, hst⟩ := hrel
                        have hrow' := hrow
                        obtain ⟨qo9, qc9, hqv9, _⟩ := hrow'
                        rw [List.length_map] at hqv9
                        subst hqv9
                        have H8 := Lib.hid (And.intro hk8 (And.intro hm8 (And.intro hrow hst)))
                        clear hk8 hm8 hrow hst
                        by_cases hjn : j < nd
                        · obtain ⟨ov, cc, he, hcells⟩ := HP.out.2.2.1
                          simp only [Value.slice.injEq] at he
                          obtain ⟨rfl, he2, rfl⟩ := he
                          rcases hcells with h0 | ⟨bv, offv, rfl, hMv, hcell⟩
                          · omega
                          obtain ⟨y, hy⟩ : ∃ y, y = (dp a).getD j ⟨#[]⟩ := ⟨_, rfl⟩
                          have hcv := (hcell j (by omega)).2.keep H8.out.1 (fun h => hMv (.inr (by have := H7.out.2.2.1; rcases h with h | h <;> omega))) 0 _ rfl
                          simp only [Nat.mul_one, Nat.add_zero] at hcv
                          rw [← hy] at hcv
                          have hjl : j < (dp a).length := by omega
                          have hye : y = (dp a)[j] := by rw [hy, List.getD_eq_getElem?_getD, List.getElem?_eq_getElem hjl]; rfl
                          have hyC : y ∈ C := HD.out.2.2.1 a y (by rw [hye]; exact List.getElem_mem _)
                          have hlk := H8.out.2.1.lookup hyC
                          have hst : KSt C dp D8 Q9 (P7 ++ [a]) (y :: (dp a).drop (j + 1)) := by
                            have h1 := H8.out.2.2.2
                            rw [List.drop_eq_getElem_cons hjl, ← hye] at h1
                            exact h1
                          have hbound : 1 ≤ D8 y ∧ D8 y ≤ 1000001000000 := by
                            have h1 := hst.deg y hyC
                            simp only [List.count_cons_self] at h1
                            have h3 := indeg_le dp 1000000 y (rest C (P7 ++ [a])) (fun q _ => HD.out.2.2.2.2.2.1 q)
                            have h4 : (rest C (P7 ++ [a])).length ≤ 1000000 := by
                              have h5 : (rest C (P7 ++ [a])).length ≤ C.length := List.length_filter_le _ _
                              have := HD.out.2.2.2.2.2.2.2.2
                              omega
                            have h8 : ((dp a).drop (j + 1)).count y ≤ ((dp a).drop (j + 1)).length := List.count_le_length
                            have h9 : ((dp a).drop (j + 1)).length + 1 ≤ 1000000 := by rw [List.length_drop]; omega
                            have h10 : indeg dp (rest C (P7 ++ [a])) y ≤ 1000000 * 1000000 := Nat.le_trans h3 (Nat.mul_le_mul_right _ h4)
                            omega
                          have hw : wrap64 (D8 y - 1) = D8 y - 1 := by unfold wrap64; omega
                          obtain ⟨z, hz⟩ : ∃ z, z = D8 y := ⟨_, rfl⟩
                          rw [← hz] at hlk hw hbound
                          obtain ⟨o5, hupd, hm6⟩ := H8.out.2.1.update hyC (z - 1) (D' := fun x => if x = y then z - 1 else D8 x) (fun _ => rfl)
                          have hlk2 := hm6.lookup hyC
                          rw [if_pos rfl] at hlk2
                          have hst2 := hst.step (D' := fun x => if x = y then z - 1 else D8 x) hyC (fun x => by
                            by_cases e : x = y
                            · rw [if_pos e, if_pos e, e, hz]
                            · rw [if_neg e, if_neg e])
                          rw [if_pos rfl] at hst2
                          have kst : Keep (· = g) wr (ChangeMaps.setBlock wr g o5) := Keep.setBlock _ _ _ (fun _ => rfl)
                          have hrow2 := H8.out.2.2.1.keep kst (fun i hi h => by have := H7.out.2.2.1; have h' : i = g := h; omega)
                          have hlen2 := hst2.len
                          have HR := Lib.hid (And.intro hm6 (And.intro hst2 (And.intro hrow2 kst)))
                          have hQL : Q9.length + 1 ≤ 1000001 := by
                            have h1 := hst.len
                            have h2 := HD.out.2.2.2.2.2.2.2.2
                            omega
                          clear he2 hMv hcell hy hjl hye hyC hz hm6 hst hst2 hrow2 kst hlen2
                          by_cases h0 : z - 1 = 0
                          · rw [h0] at hlk2 hupd hw
                            go_wp2_with (at_builtin; refine wpList_append_q rfl _ _ 259 rfl (w5.heap.size + 1) 141 iU _ 16 Tryz.underlying259 HU.out.1 HU.out.2.1 HU.out.2.2.1 HU.out.2.2.2 rfl _ _ rfl (HR.out.2.2.1.keep (Keep.alloc _ _ NoB) (fun _ _ h => h)) ⟨(ChangeMaps.setBlock wr g o5).heap.size, 0, none⟩ 1 (.string y) rfl (cell_cells (MapKept.heap_alloc (ChangeMaps.setBlock wr g o5) _).1 0) rfl ?f1 ?f2 ?f3 ?_)
                            case f1 => rw [List.length_map]; unfold maxLen; omega
                            case f2 => rw [List.length_map]; omega
                            case f3 =>
                              have h1 := H8.out.1.size
                              have h2 := HF7.out.2.keep.size
                              have h3 := H7.out.2.2.2
                              have h4 := HR.out.2.2.2.size
                              rw [World.size_alloc]; omega
                            intro qo2 qc2 w9 hq9 hk9
                            have HQ9 := Lib.hid (And.intro hq9 (HR.out.2.2.2.trans ((Keep.alloc _ (.cells #[.string y] 141) NoB).first hk9) (M'' := fun i => i = g ∨ w5.heap.size + 1 ≤ i) (fun _ _ h => .inl h) (fun _ _ h => .inr h)))
                            have HI9 := Lib.hid (HR.out.1.keep ((Keep.alloc _ (.cells #[.string y] 141) NoB).first hk9) (fun h => by have := H7.out.2.2.1; have h' : w5.heap.size + 1 ≤ g := h; omega))
                            clear hq9 hk9
                            go_wp2_with fail
                            go_roundg (gk - 1)
                            case measure => omega
                            case rel =>
                              refine ⟨j + 1, _, Q9 ++ [y], by omega, by go_num, H8.out.1.trans HQ9.out.2 (fun _ _ h => h) (fun _ _ h => h), HI9.out, ?_, ?_⟩
                              · rw [List.map_append]; exact HQ9.out.1
                              · have h1 := HR.out.2.1
                                rw [if_pos h0] at h1
                                exact h1
                          · have hne : (z - 1 == 0) = false := beq_false_of_ne h0
                            go_wp2_with fail
                            go_roundg (gk - 1)
                            case measure => omega
                            case rel =>
                              refine ⟨j + 1, _, Q9, by omega, by go_num, H8.out.1.trans HR.out.2.2.2 (fun _ _ h => h) (fun _ _ h => .inl h), HR.out.1, HR.out.2.2.1, ?_⟩
                              have h1 := HR.out.2.1
                              rw [if_neg h0] at h1
                              exact h1
                        · have hjnd : j = nd := by omega
                          go_wp2_with fail
                          go_roundg (ko - 1)
                          case measure => have := HF7.out.1; have := HP.out.1.len; simp at this; omega
                          case rel =>
                            have hd0 : (dp a).drop j = [] := by rw [hjnd, HP.out.2.2.2.1]; exact List.drop_length
                            have h1 := H8.out.2.2.2
                            rw [hd0] at h1
                            refine ⟨D8, Q9, P7 ++ [a], by have := HF7.out.1; have := HP.out.1.len; simp at this ⊢; omega, ?_, HF7.out.2.keep.trans H8.out.1 (fun _ _ h => h) (fun _ _ h => h), H8.out.2.1, H8.out.2.2.1, h1⟩
                            rw [List.length_append]
                            simp
                · obtain ⟨n, v⟩ := p
                  have hpm : (n, v) ∈ lg := H6.out.2.it.sub.subset (hp.mem_iff.2 (.head _))
                  have hv := HI6.out.2.2.2.2 n v hpm
                  subst hv
                  have hkeys : ∀ y, y ∈ left.map (·.1) ↔ y = n ∨ y ∈ lf.map (·.1) := fun y => by rw [(hp.map (·.1)).mem_iff]; simp
                  have hnodl : n ∉ lf.map (·.1) := by
                    have h4 := (hp.map (·.1)).nodup_iff.1 ((H6.out.2.it.sub.map _).nodup HI6.out.2.2.1.nodup)
                    exact (List.nodup_cons.1 h4).1
                  have hrow' := H6.out.2.row.keep hk' (fun i hi h => by omega)
                  have hkw := H6.out.2.keep.trans hk' (M'' := NoB) (fun _ _ h => h) (fun i hi h => by omega)
                  have hgl : g < w5.heap.size := HI6.out.2.2.1.lt
                  have HP := Lib.hid (And.intro hp (And.intro hit' (And.intro hk' (And.intro hpm (And.intro hkeys (And.intro hnodl (And.intro hrow' (And.intro hkw (And.intro hsz' hgl)))))))))
                  clear hp hit' hk' hpm hkeys hnodl hrow' hkw hsz' hgl
                  by_cases h0 : D n = 0
                  · rw [h0] at hnext hentry
                    go_wp2_with (at_builtin; refine wpList_append_q rfl _ _ 259 rfl (w5.heap.size + 1) 141 iU _ 16 Tryz.underlying259 HU.out.1 HU.out.2.1 HU.out.2.2.1 HU.out.2.2.2 rfl _ _ rfl (HP.out.2.2.2.2.2.2.1.keep (Keep.alloc _ _ NoB) (fun _ _ h => h)) ⟨w'.heap.size, 0, none⟩ 1 (.string n) rfl (cell_cells (MapKept.heap_alloc w' _).1 0) rfl ?e1 ?e2 ?e3 ?_)
                    case e1 => have := H6.out.2.len; have := HD.out.2.2.2.2.2.2.2.2; have hlgl := HI6.out.2.2.2.1.length_eq; rw [List.length_map] at hlgl; unfold maxLen; omega
                    case e2 => have := H6.out.2.len; have := HD.out.2.2.2.2.2.2.2.2; have hlgl := HI6.out.2.2.2.1.length_eq; rw [List.length_map] at hlgl; omega
                    case e3 => have h1 := HP.out.2.2.2.2.2.2.2.1.size; have h2 := H6.out.2.it.lt; omega
                    intro qo2 qc2 w8 hq8 hk8
                    have HQ8 := Lib.hid (And.intro hq8 ((Keep.alloc w' (.cells #[.string n] 141) NoB).first hk8))
                    clear hq8 hk8
                    go_wp2_with fail
                    go_roundg lf.length
                    case measure =>
                      have h1 := HP.out.1.length_eq
                      have h2 := H6.out.1
                      simp only [List.length_cons] at h1
                      omega
                    case rel =>
                      obtain ⟨hp, hit', hk', hpm, hkeys, hnodl, hrow', hkw, hsz', hgl⟩ := HP.out
                      obtain ⟨hq8, hk8⟩ := HQ8.out
                      have hnQ : n ∉ Q := fun h => ((H6.out.2.mem n).1 h).2.1 ((hkeys n).2 (.inl rfl))
                      refine ⟨lf, Q ++ [n], rfl, hit'.keep hk8 (fun i hi h => by cases hi; have h' : w5.heap.size + 1 ≤ g := h; omega) (fun h => by have h' : w5.heap.size + 1 ≤ w5.heap.size := h; omega), hkw.trans hk8 (fun _ _ h => h) (fun i hi h => by have h' : w5.heap.size + 1 ≤ i := h; omega), ?_, List.nodup_append.2 ⟨H6.out.2.nod, by simp, fun a ha b hb e => ?_⟩, fun x => ?_⟩
                      · rw [List.map_append]; exact hq8
                      · simp only [List.mem_singleton] at hb
                        exact hnQ (hb ▸ e ▸ ha)
                      · rw [List.mem_append, H6.out.2.mem, List.mem_singleton]
                        constructor
                        · rintro (⟨h1, h2, h3⟩ | rfl)
                          · exact ⟨h1, fun h => h2 ((hkeys x).2 (.inr h)), h3⟩
                          · exact ⟨List.mem_map.2 ⟨_, hpm, rfl⟩, hnodl, h0⟩
                        · rintro ⟨h1, h2, h3⟩
                          by_cases e : x = n
                          · exact .inr e
                          · exact .inl ⟨h1, fun h => ((hkeys x).1 h).elim e h2, h3⟩
                  · have hne : (D n == 0) = false := beq_false_of_ne h0
                    go_wp2_with fail
                    go_roundg lf.length
                    case measure =>
                      have h1 := HP.out.1.length_eq
                      have h2 := H6.out.1
                      simp only [List.length_cons] at h1
                      omega
                    case rel =>
                      obtain ⟨hp, hit', hk', hpm, hkeys, hnodl, hrow', hkw, hsz', hgl⟩ := HP.out
                      refine ⟨lf, Q, rfl, hit', hkw, hrow', H6.out.2.nod, fun x => ?_⟩
                      rw [H6.out.2.mem]
                      constructor
                      · rintro ⟨h1, h2, h3⟩
                        exact ⟨h1, fun h => h2 ((hkeys x).2 (.inr h)), h3⟩
                      · rintro ⟨h1, h2, h3⟩
                        exact ⟨h1, fun h => ((hkeys x).1 h).elim (fun e => h0 (e ▸ h3)) h2, h3⟩
            · obtain ⟨n, v⟩ := p
              have hpm : (n, v) ∈ ld := H4.out.2.it.sub.subset (hp.mem_iff.2 (.head _))
              obtain ⟨hnC, hsv⟩ := HD.out.2.2.2.2.1 n v hpm
              have hkw : Keep (fun i => i = g ∨ i = w3.heap.size) w3 w' := H4.out.2.keep.trans hk' (fun _ _ h => .inl h) (fun _ _ h => .inr h)
              have hsv' := StrsAt.keep.k (M' := fun i => i < w.heap.size + 2 ∨ g ≤ i) hkw (fun i hi h => .inr (by rcases h with h | h <;> omega)) (fun _ _ h => h) hsv
              obtain ⟨so, sc, rfl, hcells⟩ := hsv'
              obtain ⟨nr, hnr⟩ : ∃ nr, nr = (dp n).length := ⟨_, rfl⟩
              have hnrL : nr ≤ 1000000 := by rw [hnr]; exact HD.out.2.2.2.2.2.1 n
              rw [← hnr] at hcells hpm hnext hentry hp
              have hmi := H4.out.2.map.keep hk' (fun h => by omega)
              have HP := Lib.hid (And.intro hp (And.intro hit' (And.intro hk' (And.intro hpm (And.intro hcells (And.intro hnr (And.intro hnC (And.intro hkw (And.intro hsz' hmi)))))))))
              clear hp hit' hk' hpm hsv hnr hnC hkw hcells hsz' hmi
              go_wp2_with fail
              clear hnext hentry
              obtain ⟨ko, hko⟩ : ∃ x : Nat, x = gk := ⟨_, rfl⟩
              subst hko
              go_loopg [91] nr (fun k q wx => ∃ (j : Nat) (D5 : Str → Int), j + k = nr ∧ q = .int .i64 j ∧ Keep (· = g) w' wx ∧ IMap wx g C D5 ∧ ∀ x, D5 x = D x + (((dp n).take j).count x : Nat))
              case atStart => exact ⟨0, D, by omega, rfl, Keep.refl _ _, HP.out.2.2.2.2.2.2.2.2.2, fun x => by simp⟩
              case round =>
                obtain ⟨j, D5, hj, rfl, hk5, hm5, hD5⟩ := hrel
                have H5 := Lib.hid (And.intro hk5 (And.intro hm5 hD5))
                clear hk5 hm5 hD5
                by_cases hjn : j < nr
                · obtain ⟨hp, hit', hk', hpm, hcells, hnr, hnC, hkw, hsz', hmi⟩ := HP.out
                  rcases hcells with h0 | ⟨bv, offv, rfl, hMv, hcell⟩
                  · omega
                  obtain ⟨y, hy⟩ : ∃ y, y = (dp n).getD j ⟨#[]⟩ := ⟨_, rfl⟩
                  have hcv := (hcell j (by omega)).2.keep H5.out.1 (fun h => hMv (.inr (Nat.le_of_eq (show g = bv from h.symm)))) 0 _ rfl
                  simp only [Nat.mul_one, Nat.add_zero] at hcv
                  rw [← hy] at hcv
                  have hjl : j < (dp n).length := by omega
                  have hye : y = (dp n)[j] := by rw [hy, List.getD_eq_getElem?_getD, List.getElem?_eq_getElem hjl]; rfl
                  have hyC : y ∈ C := HD.out.2.2.1 n y (by rw [hye]; exact List.getElem_mem _)
                  have hlk := H5.out.2.1.lookup hyC
                  have hbound : 0 ≤ D5 y ∧ D5 y ≤ 1000001000000 := by
                    have h1 := H5.out.2.2 y
                    have h2 := H4.out.2.deg y
                    have h3 := indeg_le dp 1000000 y done (fun a _ => HD.out.2.2.2.2.2.1 a)
                    have h4 : done.length ≤ 1000000 := by
                      have h5 := length_le_of_subset (a := done) (b := C) ((List.nodup_append.1 (H4.out.2.perm.nodup_iff.2 HD.out.2.2.2.2.2.2.1)).1) (fun a ha => by
                        have h6 := H4.out.2.perm.mem_iff.1 (List.mem_append_left _ ha)
                        obtain ⟨⟨n', v'⟩, h7, rfl⟩ := List.mem_map.1 h6
                        exact (HD.out.2.2.2.2.1 n' v' h7).1)
                      have := HD.out.2.2.2.2.2.2.2.2
                      omega
                    have h8 : ((dp n).take j).count y ≤ ((dp n).take j).length := List.count_le_length
                    have h9 : ((dp n).take j).length ≤ j := by rw [List.length_take]; omega
                    have h10 : indeg dp done y ≤ 1000000 * 1000000 := Nat.le_trans h3 (Nat.mul_le_mul_right _ h4)
                    omega
                  have hw : wrap64 (D5 y + 1) = D5 y + 1 := by unfold wrap64; omega
                  obtain ⟨z, hz⟩ : ∃ z, z = D5 y := ⟨_, rfl⟩
                  rw [← hz] at hlk hw
                  obtain ⟨o5, hupd, hm6⟩ := H5.out.2.1.update hyC (z + 1) (D' := fun x => if x = y then z + 1 else D5 x) (fun _ => rfl)
                  have HR := Lib.hid (And.intro (show ∃ h : j < (dp n).length, y = (dp n)[j] from ⟨hjl, hye⟩) (And.intro hz hm6))
                  clear hp hit' hk' hpm hnr hnC hkw hsz' hmi hMv hcell hy hjl hye hyC hbound hz hm6
                  go_wp2_with fail
                  go_roundg (gk - 1)
                  case measure => omega
                  case rel =>
                    obtain ⟨⟨hjl, hye⟩, hz, hm6⟩ := HR.out
                    refine ⟨j + 1, _, by omega, by go_num, H5.out.1.trans (Keep.setBlock (M := (· = g)) _ _ _ (fun _ => rfl)) (fun _ _ h => h) (fun _ _ h => h), hm6, fun x => ?_⟩
                    rw [List.take_succ_eq_append_getElem hjl, List.count_append, ← hye]
                    by_cases e : x = y
                    · subst e
                      rw [if_pos rfl, hz, H5.out.2.2 x]
                      simp; omega
                    · rw [if_neg e, H5.out.2.2 x, List.count_cons_of_ne (fun q => e q.symm)]
                      simp
                · have hjnr : j = nr := by omega
                  go_wp2_with fail
                  go_roundg lf.length
                  case measure =>
                    have h1 := HP.out.1.length_eq
                    have h2 := H4.out.1
                    simp only [List.length_cons] at h1
                    omega
                  case rel =>
                    obtain ⟨hp, hit', hk', hpm, hcells, hnr, hnC, hkw, hsz', hmi⟩ := HP.out
                    refine ⟨lf, D5, done ++ [n], rfl, hit'.keep H5.out.1 (fun i hi h => by cases hi; have h' : w.heap.size = g := h; omega) (fun h => by omega), (H4.out.2.keep.trans hk' (M'' := (· = g)) (fun _ _ h => h) (fun i hi h => by omega)).trans H5.out.1 (fun _ _ h => h) (fun _ _ h => h), H5.out.2.1, ?_, fun x => ?_⟩
                    · refine List.Perm.trans ?_ H4.out.2.perm
                      rw [List.append_assoc]
                      exact List.Perm.append_left _ (show ([n] ++ lf.map (·.1)).Perm (left.map (·.1)) from (hp.map (fun q : Str × Value => q.1)).symm)
                    · rw [H5.out.2.2, H4.out.2.deg, hjnr, hnr, List.take_length, indeg_append]
                      unfold indeg
                      simp
        · obtain ⟨n, v⟩ := p
          have hpm : (n, v) ∈ lv := H3.out.2.it.sub.subset (hp.mem_iff.2 (.head _))
          obtain ⟨t, ht, hty⟩ := (HA.out.2.2.2.2.2.back HA.out.2.2.2.2.1.nodup).1 n v hpm
          obtain ⟨T, x, rfl⟩ := hty.iface
          have hlt := H3.out.2.it.lt
          have hkeys : ∀ y, y ∈ left.map (·.1) ↔ y = n ∨ y ∈ lf.map (·.1) := fun y => by rw [(hp.map (·.1)).mem_iff]; simp
          have hnC : n ∉ Cs := fun h => ((H3.out.2.mem n).1 h).2 ((hkeys n).2 (.inl rfl))
          obtain ⟨o3, hupd, hm3⟩ := (H3.out.2.map.keep hk' (fun h => by omega)).insert hnC rfl
          have HP := Lib.hid (And.intro hp (And.intro hit' (And.intro hk' (And.intro hpm (And.intro hkeys hm3)))))
          clear hp hit' hk' hpm ht hty hkeys hnC hm3 hlt
          go_wp2_with fail
          go_roundg lf.length
          case measure =>
            have h1 := HP.out.1.length_eq
            have h2 := H3.out.1
            simp only [List.length_cons] at h1
            omega
          case rel =>
            obtain ⟨hp, hit', hk', hpm, hkeys, hm3⟩ := HP.out
            have hmd : mC < w1.heap.size := Nat.lt_of_lt_of_le HA.out.2.2.2.2.1.lt HC.out.keep.size
            have k3 : Keep (· = w1.heap.size) w' (ChangeMaps.setBlock w' w1.heap.size o3) := Keep.setBlock _ _ _ (fun _ => rfl)
            refine ⟨lf, n :: Cs, rfl, hit'.keep k3 (fun i hi h => by cases hi; have h' : mC = w1.heap.size := h; omega) (fun h => by omega), (H3.out.2.keep.trans hk' (M'' := NoB) (fun _ _ h => h) (fun i hi h => by omega)).trans k3 (fun _ _ h => h) (fun i hi h => by omega), hm3, fun y => ?_⟩
            have hnodl : n ∉ lf.map (·.1) := by
              have h4 := (hp.map (·.1)).nodup_iff.1 ((H3.out.2.it.sub.map _).nodup HA.out.2.2.2.2.1.nodup)
              exact (List.nodup_cons.1 h4).1
            rw [List.mem_cons, H3.out.2.mem]
            constructor
            · rintro (rfl | ⟨h1, h2⟩)
              · exact ⟨List.mem_map.2 ⟨_, hpm, rfl⟩, hnodl⟩
              · exact ⟨h1, fun h => h2 ((hkeys y).2 (.inr h))⟩
            · rintro ⟨h1, h2⟩
              by_cases e : y = n
              · exact .inl e
              · exact .inr ⟨h1, fun h => ((hkeys y).1 h).elim e h2⟩
    · obtain ⟨hS, hL, hz, hcoll, hm, hR⟩ := HA.out
      obtain ⟨n, v⟩ := p
      have hpm : (n, v) ∈ lv := HF.out.2.it.sub.subset (hp.mem_iff.2 (.head _))
      obtain ⟨t, ht, hty⟩ := (hR.back hm.nodup).1 n v hpm
      obtain ⟨T, x, rfl⟩ := hty.iface
      have hnC : n ∈ V.C.map (·.1) := List.mem_map.2 ⟨_, ht, rfl⟩
      have hnz := hz n hnC
      have kw : Keep NoB w w' := HF.out.2.keep.trans hk' (M'' := NoB) (fun _ _ h => h) (fun i hi h => by subst h; omega)
      have HC := Lib.hid (hcoll n t _ ht hty)
      have HRZ := Lib.hid (refIn_size hty)
      have HP := Lib.hid (And.intro hp (And.intro hit' (And.intro hk' (And.intro hsz' (And.intro hpm (And.intro ht (And.intro hnC kw)))))))
      clear hS hL hz hcoll hm hR hp hit' hk' hsz' hpm ht hty hnC kw
      go_wp2_with fail
      refine (extractNs_c n _ hnz).mono ?_
      rintro e w2 ⟨rfl, rfl⟩
      obtain ⟨nn, hnn⟩ : ∃ nn, nn = nsOf n := ⟨_, rfl⟩
      have hnz2 : nn.size ≤ 1000000 := by rw [hnn]; exact Nat.le_trans (nsOf_size n) hnz
      rw [← hnn]
      have HNN := Lib.hid hnn
      clear hnn
      go_wp2_with fail
      refine (HC.out _ HP.out.2.2.2.2.2.2.2).mono ?_
      rintro e w3 ⟨rs, o, c, rfl, h1, h2, h3, k3⟩
      obtain ⟨nr, hnr⟩ : ∃ nr, nr = rs.length := ⟨_, rfl⟩
      rw [← hnr]
      have hnrL : nr ≤ 1000000 := by omega
      have HQ := Lib.hid (And.intro hnr (And.intro h1 (And.intro h2 (And.intro h3 k3))))
      clear hnr h1 h2 h3 k3 hnext hentry
      go_wp2_with fail
      obtain ⟨ko, hko⟩ : ∃ x : Nat, x = gk := ⟨_, rfl⟩
      subst hko
      go_loopg [44] nr (fun g q wx => ∃ (j : Nat) (dpn : List Str) (vr : Value), j + g = nr ∧ q = .int .i64 j ∧ L2 V w3 wx w.heap.size ld n rs j dpn vr)
      case atStart =>
        have hnone : kget ld n = none := by
          cases h : kget ld n with
          | none => rfl
          | some v => exact ((HF.out.2.met n v h).2.1 (List.mem_map.2 ⟨_, HP.out.1.mem_iff.2 (.head _), rfl⟩)).elim
        refine ⟨0, [], .slice none 0 0, by omega, rfl, Keep.refl _ _, ⟨ld, ?_, fun x => ?_⟩, World.ownsRow_nil _ _ _ _, fun p => by simp, by simp, fun _ => rfl⟩
        · have hk' := HP.out.2.2.1
          exact (HF.out.2.map.keep hk' (fun h => by omega)).keep HQ.out.2.2.2.2 (NoB.not _)
        · by_cases e : x = n
          · subst e; simp [hnone]
          · simp [e]
      case round =>
        obtain ⟨j, dpn, vr, hj, rfl, hX⟩ := hrel
        have HX := Lib.hid hX
        clear hX
        have hd2 : w.heap.size + 2 ≤ w3.heap.size := by
          have h1 := HF.out.2.size
          have h2 := HP.out.2.2.2.1
          have h3 := HQ.out.2.2.2.2.size
          omega
        have kwx : Keep NoB w wr := (HP.out.2.2.2.2.2.2.2.then HQ.out.2.2.2.2).trans HX.out.keep (fun _ _ h => h) (fun i hi h => by subst h; omega)
        have KX := Lib.hid (And.intro hd2 kwx)
        clear hd2 kwx
        by_cases hjn : j < nr
        · obtain ⟨hnr, h1, h2, h3, k3⟩ := HQ.out
          obtain ⟨ov, cc, he, hc⟩ := h3
          simp only [Value.slice.injEq] at he
          obtain ⟨rfl, he2, rfl⟩ := he
          rcases hc with h0 | ⟨bv, offv, rfl, hMv, hcell⟩
          · omega
          obtain ⟨r, hr⟩ : ∃ r, r = rs.getD j ⟨#[]⟩ := ⟨_, rfl⟩
          have hcv := (hcell j (by omega)).2.keep HX.out.keep (fun h => hMv (by
            have h4 := HF.out.2.size
            have h5 := HP.out.2.2.2.1
            show bv < _
            have h6 : bv = w.heap.size := h
            omega)) 0 _ rfl
          simp only [Nat.mul_one, Nat.add_zero] at hcv
          rw [← hr] at hcv
          have hrm : r ∈ rs := by
            rw [hr, List.getD_eq_getElem?_getD, List.getElem?_eq_getElem (by omega)]
            exact List.getElem_mem _
          have hrz := HRZ.out r ((h1 r).1 hrm)
          have hS' := HA.out.1.keep (M' := M) KX.out.2 (fun _ _ h => h.elim) (fun _ _ h => h)
          have HPC := Lib.hid (refPath_c wr M b mE mN mC V hS' nn r hnz2 hrz)
          obtain ⟨pp, hpp⟩ : ∃ pp, pp = pathOf V nn r := ⟨_, rfl⟩
          rw [← hpp] at HPC
          rw [HNN.out] at hpp
          obtain ⟨lvx, hmx, hRx⟩ := hS'.commons'
          have hlook := commons_look hmx hRx pp
          have c2 := hS'.c2
          have HR := Lib.hid (And.intro hr hpp)
          clear hnr h1 h2 k3 he2 hMv hcell hr hrm hrz hS' hpp hmx hRx
          go_wp2_with fail
          refine HPC.out.mono ?_
          rintro e w5 ⟨rfl, hw5⟩
          replace hw5 := hw5.symm
          subst hw5
          rcases hlook with ⟨t', v', hk1, _, hk2⟩ | ⟨hk1, hk2⟩
          · have hpC : pp ∈ V.C.map (·.1) := List.mem_map.2 ⟨_, kget_some hk1, rfl⟩
            have HK := Lib.hid hpC
            clear hk1 hpC
            obtain ⟨ld', hm', hk'⟩ := HX.out.map
            have hlk : (Instr.lookup 254 (.map (some w.heap.size)) (.string n) false).run Tryz.prog wr = .ok vr wr := by
              rw [hm'.lookup (strKey Tryz.underlying141) Tryz.underlying254 (zeroPaths wr) n false, hk' n, if_pos rfl]
              by_cases h0 : dpn = []
              · rw [if_pos h0, HX.out.nil h0]; rfl
              · rw [if_neg h0]; rfl
            have HM := Lib.hid (And.intro hm' hk')
            clear hm' hk'
            obtain ⟨so, sc, hvs⟩ : ∃ so sc, vr = .slice so dpn.length sc := by
              rcases HX.out.row.2 with ⟨h1, h2⟩ | ⟨g, cap, cur, h1, _⟩
              · exact ⟨none, 0, by rw [h1, h2]⟩
              · exact ⟨_, _, h1⟩
            subst hvs
            go_wp2_with (at_builtin; refine wpList_append_own _ rfl _ _ 259 rfl w3.heap.size 141 iU _ 1 16 Tryz.underlying259 HU.out.1 HU.out.2.1 HU.out.2.2.1 HU.out.2.2.2 rfl (by decide) _ _ _ rfl (HX.out.row.alloc _) ⟨wr.heap.size, 0, none⟩ 1 1 [.string pp] rfl rfl ?c1 ?c2 ?c3 ?c4 ?c5 ?_)
            case c1 =>
              intro q u hq
              rcases q with _ | q
              · cases hq; exact cell_cells (MapKept.heap_alloc wr _).1 0
              · cases hq
            case c2 => intro u hu; simp only [List.mem_singleton] at hu; subst hu; rfl
            case c3 => have := HX.out.len; have := HQ.out.2.2.1; have := HQ.out.1; unfold maxLen; omega
            case c4 => have := HX.out.len; have := HQ.out.2.2.1; have := HQ.out.1; omega
            case c5 =>
              have h1 := HX.out.keep.size
              rw [World.size_alloc]; omega
            intro v6 w6 hown6 hgrow _
            obtain ⟨g, cap, rfl⟩ := owns_some hown6
            have kg := grown_keep HX.out.row hgrow
            have k6 : Keep (fun i => w3.heap.size ≤ i) wr w6 := (Keep.alloc wr (.cells #[.string pp] 141) NoB).first kg
            have hm6 := HM.out.1.keep k6 (fun h => by have := KX.out.1; have h' : w3.heap.size ≤ w.heap.size := h; omega)
            obtain ⟨o7, hupd, hm7⟩ := hm6.update (strKey Tryz.underlying141) Tryz.underlying254 n (.slice (some ⟨g, 0, none⟩) (dpn.length + 1) cap)
            have HG := Lib.hid (And.intro hown6 (And.intro k6 hm7))
            clear hown6 hgrow kg k6 hm6 hm7 hlk
            go_wp2_with fail
            go_roundg (gk - 1)
            case measure => omega
            case rel =>
              obtain ⟨hown6, k6, hm7⟩ := HG.out
              have k7 : Keep (· = w.heap.size) w6 (ChangeMaps.setBlock w6 w.heap.size o7) := Keep.setBlock _ _ _ (fun _ => rfl)
              have hs3 := HX.out.keep.size
              refine ⟨j + 1, dpn ++ [pp], .slice (some ⟨g, 0, none⟩) (dpn.length + 1) cap, by omega, by go_num, (HX.out.keep.trans k6 (fun _ _ h => h) (fun i hi h => by omega)).trans k7 (fun _ _ h => h) (fun _ _ h => h), ⟨_, hm7, fun x => ?_⟩, ?_, fun p => ?_, by have := HX.out.len; simp; omega, fun h => by simp at h⟩
              · rw [kget_kput, HM.out.2 x]
                by_cases e : x = n
                · subst e; simp
                · rw [if_neg (fun q => e q.symm), if_neg e, if_neg e]
              · have h8 := hown6.keep k7 (fun i hi h => by have := KX.out.1; have h' : i = w.heap.size := h; omega)
                rw [List.map_append, List.length_append]
                exact h8
              · have hjr : j < rs.length := by have := HQ.out.1; omega
                have hrr : r = rs[j] := by rw [HR.out.1, List.getD_eq_getElem?_getD, List.getElem?_eq_getElem hjr]; rfl
                rw [List.mem_append, HX.out.mem, List.take_succ_eq_append_getElem hjr]
                simp only [List.mem_append, List.mem_singleton]
                constructor
                · rintro (⟨q, h1, h2, h3⟩ | rfl)
                  · exact ⟨q, .inl h1, h2, h3⟩
                  · exact ⟨rs[j], .inr rfl, by rw [HR.out.2, hrr], HK.out⟩
                · rintro ⟨q, h1 | rfl, h2, h3⟩
                  · exact .inl ⟨q, h1, h2, h3⟩
                  · exact .inr (by rw [h2, HR.out.2, hrr])
          · have HK := Lib.hid hk1
            clear hk1
            go_wp2_with fail
            go_roundg (gk - 1)
            case measure => omega
            case rel =>
              have hpC : pp ∉ V.C.map (·.1) := fun h => by
                obtain ⟨p, hp, e⟩ := List.mem_map.1 h
                have := HK.out
                rw [← e, kget_mem HA.out.2.2.2.2.2.nodup hp] at this
                cases this
              refine ⟨j + 1, dpn, vr, by omega, by go_num, HX.out.keep, HX.out.map, HX.out.row, fun p => ?_, by have := HX.out.len; omega, HX.out.nil⟩
              have hjr : j < rs.length := by have := HQ.out.1; omega
              have hrr : r = rs[j] := by rw [HR.out.1, List.getD_eq_getElem?_getD, List.getElem?_eq_getElem hjr]; rfl
              rw [HX.out.mem, List.take_succ_eq_append_getElem hjr]
              simp only [List.mem_append, List.mem_singleton]
              constructor
              · rintro ⟨q, h1, h2, h3⟩
                exact ⟨q, .inl h1, h2, h3⟩
              · rintro ⟨q, h1 | rfl, h2, h3⟩
                · exact ⟨q, h1, h2, h3⟩
                · rw [← hrr, ← HR.out.2] at h2
                  exact (hpC (h2 ▸ h3)).elim
        · have hjnr : j = nr := by omega
          go_wp2_with fail
          go_roundg lf.length
          case measure =>
            have h1 := HP.out.1.length_eq
            have h2 := HF.out.1
            simp only [List.length_cons] at h1
            omega
          case rel =>
            obtain ⟨ld', hm', hk'⟩ := HX.out.map
            obtain ⟨hp, hit', hkr, hsz', hpm, ht, hnC, kw⟩ := HP.out
            obtain ⟨hnr, h1, h2, h3, k3⟩ := HQ.out
            have hL1 := HF.out.2
            have hold : w.heap.size + 2 ≤ w2.heap.size := by have := hL1.size; omega
            have kx : Keep (· = w.heap.size) w2 wr := k3.first HX.out.keep
            have kall : Keep (fun i => i < w.heap.size + 2) _ wr := hkr.trans kx (M'' := fun i => i < w.heap.size + 2) (fun i _ h => by have h' : i = w.heap.size + 1 := h; show i < _; omega) (fun i _ h => by have h' : i = w.heap.size := h; show i < _; omega)
            have hkeys : ∀ y, y ∈ left.map (·.1) ↔ y = n ∨ y ∈ lf.map (·.1) := fun y => by rw [(hp.map (·.1)).mem_iff]; simp
            have hnodl : n ∉ lf.map (·.1) := by
              have h4 := (hp.map (·.1)).nodup_iff.1 ((hL1.it.sub.map _).nodup HA.out.2.2.2.2.1.nodup)
              exact (List.nodup_cons.1 h4).1
            have hmd : mC ≠ w.heap.size := by have := HA.out.2.2.2.2.1.lt; omega
            refine ⟨lf, ld', fun x => if x = n then dpn else dp x, rfl, hit'.keep kx (fun i hi h => by cases hi; exact hmd h) (fun h => by omega), KX.out.2, by have := HX.out.keep.size; have := KX.out.1; omega, hm', fun x hx => ?_, fun x v hx => ?_, fun x hx hxl p => ?_, fun x => ?_⟩
            · rw [hk'] at hx
              by_cases e : x = n
              · rw [if_pos e] at hx ⊢
                by_cases h0 : dpn = []
                · exact h0
                · rw [if_neg h0] at hx; cases hx
              · rw [if_neg e] at hx ⊢
                exact hL1.none x hx
            · rw [hk'] at hx
              by_cases e : x = n
              · subst e
                rw [if_pos rfl] at hx
                by_cases h0 : dpn = []
                · rw [if_pos h0] at hx; cases hx
                · rw [if_neg h0] at hx
                  cases hx
                  refine ⟨hnC, hnodl, ?_⟩
                  rw [if_pos rfl]
                  exact (ownsRow_strs (M := (· < w.heap.size + 2)) HX.out.row (fun i h => by have := KX.out.1; have h' : i < w.heap.size + 2 := h; omega)).2
              · rw [if_neg e] at hx
                obtain ⟨q1, q2, q3⟩ := hL1.met x v hx
                refine ⟨q1, fun h => q2 ((hkeys x).2 (.inr h)), ?_⟩
                rw [if_neg e]
                exact StrsAt.keep.k kall (fun _ _ h => h) (fun _ _ h => h) q3
            · by_cases e : x = n
              · subst e
                rw [if_pos rfl, HX.out.mem, hjnr, hnr, List.take_length]
                have htn : kget V.C x = some t := kget_mem HA.out.2.2.2.2.2.nodup ht
                constructor
                · rintro ⟨r, hr, e1, e2⟩
                  exact ⟨t, r, htn, (h1 r).1 hr, e1, e2⟩
                · rintro ⟨t', r, e0, hr, e1, e2⟩
                  rw [htn] at e0
                  cases e0
                  exact ⟨r, (h1 r).2 hr, e1, e2⟩
              · rw [if_neg e]
                exact hL1.mem x hx (fun h => ((hkeys x).1 h).elim e hxl) p
            · by_cases e : x = n
              · rw [if_pos e]; have := HX.out.len; omega
              · rw [if_neg e]; exact hL1.len x
end Go.Proofs.YtedgonoeeeiilaaGreatDoor
