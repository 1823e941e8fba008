/- The walk of the function that looks whether a namespace hides something. Printed by gen57.py (its ten loops are alike). -/
import Derived.Test.YtedgonoeeeiilaaGreatDoorLoop
import Derived.Carry
namespace Go.Proofs.YtedgonoeeeiilaaGreatDoor
open Go.RowKit
set_option maxRecDepth 100000 in
set_option maxHeartbeats 8000000 in
theorem checkShadowing_c (w : World) (M : Nat → Prop) (b : Nat) (me mn ma mc ms : Option Nat) (le ln la lc ls : List (Str × Value)) (NS : Str → Names) (hS : SchemaV w M b me mn ma mc ms le ln la lc ls NS) :
    Calls Tryz.prog 52 #[.pointer (some ⟨b, 0, none⟩)] w fun e w' => ShadowOut le ln la lc ls NS e ∧ Keep NoB w w' := by
  have HS := Lib.hid hS
  have K0 := Lib.hid (Keep.alloc w (.map #[] 0) NoB)
  have HB0 : Hid (BSet (w.alloc (.map #[] 0)) w.heap.size []) := Lib.hid (KMap.made w)
  have HMmT : Hid (w.heap.size ≤ w.heap.size) := Lib.hid (by omega)
  clear hS
  have hmm := @run_makeMap Tryz.prog
  go_enter Tryz.func52, Tryz.ntmps52
  have c1 := K0.out.cell HS.out.c0 (NoB.not _)
  obtain ⟨o1, hrun1, hit1⟩ := ((HS.out.m0).keep K0.out (fun _ _ => NoB.not _)).range (w := (w.alloc (.map #[] 0))) Tryz.underlying127
  have HI1 := Lib.hid hit1
  clear hit1
  go_wp2_with fail
  clear hrun1 c1 
  obtain ⟨wo1, hwo1⟩ : ∃ wo : World, wo = (w.alloc (.map #[] 0)) := ⟨_, rfl⟩
  have HW1 := Lib.hid hwo1
  rw [← hwo1]
  clear hwo1
  go_loopg [] le.length (fun k w2 => ∃ left B', left.length = k ∧ Fill wo1 w2 me (w.heap.size + 1) w.heap.size le [] left B')
  case atStart =>
    rw [HW1.out]
    exact ⟨le, [], rfl, (by simp : ((w.alloc (.map #[] 0))).heap.size = (w.heap.size + 1)) ▸ Fill.start HI1.out (fun j hj e => by
      have h1 := HS.out.m0
      rw [hj] at h1
      have h2 := KMap.lt h1
      have h4 := HMmT.out
      omega) HB0.out⟩
  case round =>
    obtain ⟨left, B1, e1, hF⟩ := hrel
    have HF1 := Lib.hid (And.intro e1 hF)
    clear e1 hF
    rcases HF1.out.2.it.next (P := Tryz.prog) (fun h => by cases h; rfl) 0 with ⟨rfl, hnext⟩ | ⟨p1, lf1, w1, hp, hnext, hentry, hit', hk', hsz'⟩
    · have K1 := Lib.hid (K0.out.trans (HW1.out ▸ HF1.out.2.keep) (M'' := NoB) (fun _ _ h => h) (fun j hj e => by subst e; have := HMmT.out; omega))
      have HB1 := Lib.hid HF1.out.2.set
      have c2 := K1.out.cell HS.out.c1 (NoB.not _)
      obtain ⟨o2, hrun2, hit2⟩ := ((HS.out.m1).keep K1.out (fun _ _ => NoB.not _)).range (w := wr) Tryz.underlying129
      have HI2 := Lib.hid hit2
      clear hit2
      go_wp2_with fail
      clear hrun2 c2 hnext
      obtain ⟨wo2, hwo2⟩ : ∃ wo : World, wo = wr := ⟨_, rfl⟩
      have HW2 := Lib.hid hwo2
      rw [← hwo2]
      clear hwo2
      go_loopg [] ln.length (fun k w2 => ∃ left B', left.length = k ∧ Fill wo2 w2 mn wo2.heap.size w.heap.size ln B1 left B')
      case atStart =>
        rw [HW2.out]
        exact ⟨ln, B1, rfl, Fill.start HI2.out (fun j hj e => by
          have h1 := HS.out.m1
          rw [hj] at h1
          have h2 := KMap.lt h1
          have h4 := HMmT.out
          omega) HB1.out⟩
      case round =>
        obtain ⟨left, B2, e1, hF⟩ := hrel
        have HF2 := Lib.hid (And.intro e1 hF)
        clear e1 hF
        rcases HF2.out.2.it.next (P := Tryz.prog) (fun h => by cases h; rfl) 0 with ⟨rfl, hnext⟩ | ⟨p2, lf2, w2, hp, hnext, hentry, hit', hk', hsz'⟩
        · have K2 := Lib.hid (K1.out.trans (HW2.out ▸ HF2.out.2.keep) (M'' := NoB) (fun _ _ h => h) (fun j hj e => by subst e; have := HMmT.out; omega))
          have HB2 := Lib.hid HF2.out.2.set
          have c3 := K2.out.cell HS.out.c3 (NoB.not _)
          obtain ⟨o3, hrun3, hit3⟩ := ((HS.out.m3).keep K2.out (fun _ _ => NoB.not _)).range (w := wr) Tryz.underlying133
          have HI3 := Lib.hid hit3
          clear hit3
          go_wp2_with fail
          clear hrun3 c3 hnext
          obtain ⟨wo3, hwo3⟩ : ∃ wo : World, wo = wr := ⟨_, rfl⟩
          have HW3 := Lib.hid hwo3
          rw [← hwo3]
          clear hwo3
          go_loopg [] lc.length (fun k w2 => ∃ left B', left.length = k ∧ Fill wo3 w2 mc wo3.heap.size w.heap.size lc B2 left B')
          case atStart =>
            rw [HW3.out]
            exact ⟨lc, B2, rfl, Fill.start HI3.out (fun j hj e => by
              have h1 := HS.out.m3
              rw [hj] at h1
              have h2 := KMap.lt h1
              have h4 := HMmT.out
              omega) HB2.out⟩
          case round =>
            obtain ⟨left, B3, e1, hF⟩ := hrel
            have HF3 := Lib.hid (And.intro e1 hF)
            clear e1 hF
            rcases HF3.out.2.it.next (P := Tryz.prog) (fun h => by cases h; rfl) 0 with ⟨rfl, hnext⟩ | ⟨p3, lf3, w3, hp, hnext, hentry, hit', hk', hsz'⟩
            · have K3 := Lib.hid (K2.out.trans (HW3.out ▸ HF3.out.2.keep) (M'' := NoB) (fun _ _ h => h) (fun j hj e => by subst e; have := HMmT.out; omega))
              have HB3 := Lib.hid HF3.out.2.set
              have HBM : Hid (∀ x, x ∈ B3 ↔ x ∈ le.map (·.1) ++ ln.map (·.1) ++ lc.map (·.1)) := Lib.hid fun x => by
                rw [HF3.out.2.done, HF2.out.2.done, HF1.out.2.done]
                simp [or_assoc]
              have c4 := K3.out.cell HS.out.c4 (NoB.not _)
              obtain ⟨o4, hrun4, hit4⟩ := ((HS.out.m4).keep K3.out (fun _ _ => NoB.not _)).range (w := wr) Tryz.underlying125
              have HI4 := Lib.hid hit4
              clear hit4
              go_wp2_with fail
              clear hrun4 c4 hnext
              obtain ⟨wo4, hwo4⟩ : ∃ wo : World, wo = wr := ⟨_, rfl⟩
              have HW4 := Lib.hid hwo4
              rw [← hwo4]
              clear hwo4
              go_loopg [] ls.length (fun k w2 => ∃ left, left.length = k ∧ Look wo4 w2 ms wo4.heap.size ls (fun x => ∀ y, (y ∈ (NS x).e ∨ y ∈ (NS x).n ∨ y ∈ (NS x).c) → y ∉ B3) left)
              case atStart =>
                rw [HW4.out]
                exact ⟨ls, rfl, Look.start HI4.out⟩
              case round =>
                obtain ⟨left, e1, hF⟩ := hrel
                have HF4 := Lib.hid (And.intro e1 hF)
                clear e1 hF
                rcases HF4.out.2.it.next (P := Tryz.prog) (fun h => by cases h; rfl) 0 with ⟨rfl, hnext⟩ | ⟨p4, lf4, w4, hp, hnext, hentry, hit', hk', hsz'⟩
                · have kk : Keep NoB wo4 wr := HF4.out.2.keep
                  rw [HW4.out] at kk
                  have K4 := Lib.hid (K3.out.then kk)
                  have HB4 := Lib.hid (HB3.out.keep kk (NoB.not _))
                  clear kk
                  have HD4 : Hid (∀ p ∈ ls, ∀ y, (y ∈ (NS p.1).e ∨ y ∈ (NS p.1).n ∨ y ∈ (NS p.1).c) → y ∉ B3) := Lib.hid fun p hp => HF4.out.2.done p.1 (List.mem_map.2 ⟨p, hp, rfl⟩)
                  have K5 := Lib.hid (K4.out.then (Keep.alloc wr (.map #[] 0) NoB))
                  have HB5 : Hid (BSet (wr.alloc (.map #[] 0)) wr.heap.size []) := Lib.hid (KMap.made wr)
                  have HMsA : Hid (w.heap.size ≤ wr.heap.size) := Lib.hid K4.out.size
                  obtain ⟨wA, hwA⟩ : ∃ wA : World, wA = wr := ⟨_, rfl⟩
                  rw [← hwA] at HMsA HB5 K5 hnext ⊢
                  have HWA := Lib.hid hwA
                  clear hwA
                  have c8 := K5.out.cell HS.out.c2 (NoB.not _)
                  obtain ⟨o8, hrun8, hit8⟩ := ((HS.out.m2).keep K5.out (fun _ _ => NoB.not _)).range (w := (wA.alloc (.map #[] 0))) Tryz.underlying131
                  have HI8 := Lib.hid hit8
                  clear hit8
                  go_wp2_with fail
                  clear hrun8 c8 hnext
                  obtain ⟨wo8, hwo8⟩ : ∃ wo : World, wo = (wA.alloc (.map #[] 0)) := ⟨_, rfl⟩
                  have HW8 := Lib.hid hwo8
                  rw [← hwo8]
                  clear hwo8
                  go_loopg [] la.length (fun k w2 => ∃ left B', left.length = k ∧ Fill wo8 w2 ma (wA.heap.size + 1) wA.heap.size la [] left B')
                  case atStart =>
                    rw [HW8.out]
                    exact ⟨la, [], rfl, (by simp : ((wA.alloc (.map #[] 0))).heap.size = (wA.heap.size + 1)) ▸ Fill.start HI8.out (fun j hj e => by
                      have h1 := HS.out.m2
                      rw [hj] at h1
                      have h2 := KMap.lt h1
                      have h4 := HMsA.out
                      omega) HB5.out⟩
                  case round =>
                    obtain ⟨left, B8, e1, hF⟩ := hrel
                    have HF8 := Lib.hid (And.intro e1 hF)
                    clear e1 hF
                    rcases HF8.out.2.it.next (P := Tryz.prog) (fun h => by cases h; rfl) 0 with ⟨rfl, hnext⟩ | ⟨p8, lf8, w8, hp, hnext, hentry, hit', hk', hsz'⟩
                    · have K8 := Lib.hid (K5.out.trans (HW8.out ▸ HF8.out.2.keep) (M'' := NoB) (fun _ _ h => h) (fun j hj e => by subst e; have := HMsA.out; omega))
                      have HB8 := Lib.hid HF8.out.2.set
                      have HBM8 : Hid (∀ x, x ∈ B8 ↔ x ∈ la.map (·.1)) := Lib.hid fun x => by
                        rw [HF8.out.2.done]
                        simp
                      have c9 := K8.out.cell HS.out.c4 (NoB.not _)
                      obtain ⟨o9, hrun9, hit9⟩ := ((HS.out.m4).keep K8.out (fun _ _ => NoB.not _)).range (w := wr) Tryz.underlying125
                      have HI9 := Lib.hid hit9
                      clear hit9
                      go_wp2_with fail
                      clear hrun9 c9 hnext
                      obtain ⟨wo9, hwo9⟩ : ∃ wo : World, wo = wr := ⟨_, rfl⟩
                      have HW9 := Lib.hid hwo9
                      rw [← hwo9]
                      clear hwo9
                      go_loopg [] ls.length (fun k w2 => ∃ left, left.length = k ∧ Look wo9 w2 ms wo9.heap.size ls (fun x => ∀ y ∈ (NS x).a, y ∉ B8) left)
                      case atStart =>
                        rw [HW9.out]
                        exact ⟨ls, rfl, Look.start HI9.out⟩
                      case round =>
                        obtain ⟨left, e1, hF⟩ := hrel
                        have HF9 := Lib.hid (And.intro e1 hF)
                        clear e1 hF
                        rcases HF9.out.2.it.next (P := Tryz.prog) (fun h => by cases h; rfl) 0 with ⟨rfl, hnext⟩ | ⟨p9, lf9, w9, hp, hnext, hentry, hit', hk', hsz'⟩
                        · have kk : Keep NoB wo9 wr := HF9.out.2.keep
                          rw [HW9.out] at kk
                          have K9 := Lib.hid (K8.out.then kk)
                          have HB9 := Lib.hid (HB8.out.keep kk (NoB.not _))
                          clear kk
                          go_wp2_with fail
                          go_ret
                          refine ⟨.inr ⟨rfl, fun p hp hh => ?_⟩, K9.out⟩
                          rcases hh with ⟨x, hx, hb⟩ | ⟨x, hx, hb⟩
                          · exact HD4.out p hp x hx ((HBM.out x).2 hb)
                          · exact HF9.out.2.done p.1 (List.mem_map.2 ⟨p, hp, rfl⟩) x hx ((HBM8.out x).2 hb)
                        · have kk : Keep NoB wo9 w9 := HF9.out.2.keep' hk'
                          rw [HW9.out] at kk
                          have Kp9 := Lib.hid (K8.out.then kk)
                          have HBp9 := Lib.hid (HB8.out.keep kk (NoB.not _))
                          have hpm := HF9.out.2.mem hp
                          obtain ⟨pk, pv⟩ := p9
                          obtain ⟨an, xe, xn, xa, xc, je, jn, ja, jc, hv, q0, q1, q2, q3, _, _, _, _, n0, n1, n2, n3⟩ := HS.out.spaces _ hpm
                          obtain rfl : pv = _ := hv
                          have HP9 := Lib.hid (And.intro hp (And.intro hit' (And.intro hk' hpm)))
                          have HQ := Lib.hid (And.intro q0 (And.intro q1 (And.intro q2 q3)))
                          have HN := Lib.hid (And.intro n0 (And.intro n1 (And.intro n2 n3)))
                          clear hp hit' hk' hsz' kk hpm q0 q1 q2 q3 n0 n1 n2 n3
                          have Ka9 := Lib.hid (Kp9.out.then (Keep.alloc w9 (.cells #[.map an, .map xe, .map xn, .map xa, .map xc] 138) NoB))
                          have HBa9 := Lib.hid (HBp9.out.keep (Keep.alloc w9 (.cells #[.map an, .map xe, .map xn, .map xa, .map xc] 138) NoB) (NoB.not _))
                          skip
                          obtain ⟨o10, hrun10, hit10⟩ := ((HQ.out.2.2.1).keep Ka9.out (fun _ _ => NoB.not _)).range (w := (w9.alloc (.cells #[.map an, .map xe, .map xn, .map xa, .map xc] 138))) Tryz.underlying131
                          have HI10 := Lib.hid hit10
                          clear hit10
                          go_wp2_with fail
                          clear hrun10 hnext hentry
                          obtain ⟨wo10, hwo10⟩ : ∃ wo : World, wo = (w9.alloc (.cells #[.map an, .map xe, .map xn, .map xa, .map xc] 138)) := ⟨_, rfl⟩
                          have HW10 := Lib.hid hwo10
                          rw [← hwo10]
                          clear hwo10
                          go_loopg [] ja.length (fun k w2 => ∃ left, left.length = k ∧ Look wo10 w2 xa (w9.heap.size + 1) ja (· ∉ B8) left)
                          case atStart =>
                            rw [HW10.out]
                            exact ⟨ja, rfl, (by simp : ((w9.alloc (.cells #[.map an, .map xe, .map xn, .map xa, .map xc] 138))).heap.size = (w9.heap.size + 1)) ▸ Look.start HI10.out⟩
                          case round =>
                            obtain ⟨left, e1, hF⟩ := hrel
                            have HF10 := Lib.hid (And.intro e1 hF)
                            clear e1 hF
                            rcases HF10.out.2.it.next (P := Tryz.prog) (fun h => by cases h; rfl) 0 with ⟨rfl, hnext⟩ | ⟨p10, lf10, w10, hp, hnext, hentry, hit', hk', hsz'⟩
                            · have kk : Keep NoB wo10 wr := HF10.out.2.keep
                              rw [HW10.out] at kk
                              have K10 := Lib.hid (Ka9.out.then kk)
                              have HB10 := Lib.hid (HBa9.out.keep kk (NoB.not _))
                              have KK10 := Lib.hid kk
                              clear kk
                              have HM10 := Lib.hid HF10.out.2.done
                              have KK := Lib.hid ((Keep.alloc w9 (.cells #[.map an, .map xe, .map xn, .map xa, .map xc] 138) NoB).then KK10.out)
                              go_wp2_with fail
                              go_roundg lf9.length
                              case measure =>
                                have h1 := HP9.out.1.length_eq
                                have h2 := HF9.out.1
                                rw [List.length_cons] at h1; omega
                              case rel =>
                                refine ⟨lf9, rfl, HF9.out.2.step HP9.out.1 HP9.out.2.1 HP9.out.2.2.1 KK.out ?_⟩
                                intro x hx
                                exact HM10.out x (HN.out.2.2.1 ▸ hx)
                            · have kk : Keep NoB wo10 w10 := HF10.out.2.keep' hk'
                              rw [HW10.out] at kk
                              have Kq10 := Lib.hid (Ka9.out.then kk)
                              have hl := (HBa9.out.keep kk (NoB.not _)).lookupT Tryz.underlying253 Tryz.underlying94 p10.1
                              have HK := Lib.hid (And.intro hp (And.intro hit' hk'))
                              clear hp hit' hk' hsz' kk
                              by_cases hx : p10.1 ∈ B8
                              · have HX := Lib.hid hx
                                go_wp2_with (go_at_call 76; refine (errorsNew_c _ _).mono ?_; rintro e w' ⟨a, rfl, hk⟩)
                                go_ret
                                have hm := HP9.out.2.2.2
                                refine ⟨.inl ⟨⟨_, rfl⟩, _, hm, .inr ⟨_, ?_, (HBM8.out _).1 HX.out⟩⟩, Kq10.out.then (by assumption)⟩
                                have h1 : p10.1 ∈ ja.map (·.1) := List.mem_map.2 ⟨_, HF10.out.2.mem HK.out.1, rfl⟩
                                rw [HN.out.2.2.1] at h1; exact h1
                              · have HX := Lib.hid hx
                                go_wp2_with fail
                                go_roundg lf10.length
                                case measure =>
                                  have h1 := HK.out.1.length_eq
                                  have h2 := HF10.out.1
                                  rw [List.length_cons] at h1; omega
                                case rel => exact ⟨lf10, rfl, HF10.out.2.step HK.out.1 HK.out.2.1 HK.out.2.2 (Keep.refl _ _) HX.out⟩
                    · obtain ⟨o2, hupd, hB3⟩ := (HF8.out.2.set' hk').updateT Tryz.underlying253 Tryz.underlying94 p8.1
                      have HK := Lib.hid (And.intro hp (And.intro hit' (And.intro hk' hB3)))
                      clear hp hit' hk' hsz' hB3
                      go_wp2_with fail
                      go_roundg lf8.length
                      case measure =>
                        have h1 := HK.out.1.length_eq
                        have h2 := HF8.out.1
                        rw [List.length_cons] at h1; omega
                      case rel => exact ⟨lf8, _, rfl, HF8.out.2.step HK.out.1 HK.out.2.1 HK.out.2.2.1 HK.out.2.2.2⟩
                · have kk : Keep NoB wo4 w4 := HF4.out.2.keep' hk'
                  rw [HW4.out] at kk
                  have Kp4 := Lib.hid (K3.out.then kk)
                  have HBp4 := Lib.hid (HB3.out.keep kk (NoB.not _))
                  have hpm := HF4.out.2.mem hp
                  obtain ⟨pk, pv⟩ := p4
                  obtain ⟨an, xe, xn, xa, xc, je, jn, ja, jc, hv, q0, q1, q2, q3, _, _, _, _, n0, n1, n2, n3⟩ := HS.out.spaces _ hpm
                  obtain rfl : pv = _ := hv
                  have HP4 := Lib.hid (And.intro hp (And.intro hit' (And.intro hk' hpm)))
                  have HQ := Lib.hid (And.intro q0 (And.intro q1 (And.intro q2 q3)))
                  have HN := Lib.hid (And.intro n0 (And.intro n1 (And.intro n2 n3)))
                  clear hp hit' hk' hsz' kk hpm q0 q1 q2 q3 n0 n1 n2 n3
                  have Ka4 := Lib.hid (Kp4.out.then (Keep.alloc w4 (.cells #[.map an, .map xe, .map xn, .map xa, .map xc] 138) NoB))
                  have HBa4 := Lib.hid (HBp4.out.keep (Keep.alloc w4 (.cells #[.map an, .map xe, .map xn, .map xa, .map xc] 138) NoB) (NoB.not _))
                  skip
                  obtain ⟨o5, hrun5, hit5⟩ := ((HQ.out.1).keep Ka4.out (fun _ _ => NoB.not _)).range (w := (w4.alloc (.cells #[.map an, .map xe, .map xn, .map xa, .map xc] 138))) Tryz.underlying127
                  have HI5 := Lib.hid hit5
                  clear hit5
                  go_wp2_with fail
                  clear hrun5 hnext hentry
                  obtain ⟨wo5, hwo5⟩ : ∃ wo : World, wo = (w4.alloc (.cells #[.map an, .map xe, .map xn, .map xa, .map xc] 138)) := ⟨_, rfl⟩
                  have HW5 := Lib.hid hwo5
                  rw [← hwo5]
                  clear hwo5
                  go_loopg [] je.length (fun k w2 => ∃ left, left.length = k ∧ Look wo5 w2 xe (w4.heap.size + 1) je (· ∉ B3) left)
                  case atStart =>
                    rw [HW5.out]
                    exact ⟨je, rfl, (by simp : ((w4.alloc (.cells #[.map an, .map xe, .map xn, .map xa, .map xc] 138))).heap.size = (w4.heap.size + 1)) ▸ Look.start HI5.out⟩
                  case round =>
                    obtain ⟨left, e1, hF⟩ := hrel
                    have HF5 := Lib.hid (And.intro e1 hF)
                    clear e1 hF
                    rcases HF5.out.2.it.next (P := Tryz.prog) (fun h => by cases h; rfl) 0 with ⟨rfl, hnext⟩ | ⟨p5, lf5, w5, hp, hnext, hentry, hit', hk', hsz'⟩
                    · have kk : Keep NoB wo5 wr := HF5.out.2.keep
                      rw [HW5.out] at kk
                      have K5 := Lib.hid (Ka4.out.then kk)
                      have HB5 := Lib.hid (HBa4.out.keep kk (NoB.not _))
                      have KK5 := Lib.hid kk
                      clear kk
                      have hc6 : wr.cell? ⟨w4.heap.size, 2, none⟩ = some (.map xn) := KK5.out.cell (by simp) (NoB.not _)
                      obtain ⟨o6, hrun6, hit6⟩ := ((HQ.out.2.1).keep K5.out (fun _ _ => NoB.not _)).range (w := wr) Tryz.underlying129
                      have HI6 := Lib.hid hit6
                      clear hit6
                      go_wp2_with fail
                      clear hrun6 hc6 hnext
                      obtain ⟨wo6, hwo6⟩ : ∃ wo : World, wo = wr := ⟨_, rfl⟩
                      have HW6 := Lib.hid hwo6
                      rw [← hwo6]
                      clear hwo6
                      go_loopg [] jn.length (fun k w2 => ∃ left, left.length = k ∧ Look wo6 w2 xn wo6.heap.size jn (· ∉ B3) left)
                      case atStart =>
                        rw [HW6.out]
                        exact ⟨jn, rfl, Look.start HI6.out⟩
                      case round =>
                        obtain ⟨left, e1, hF⟩ := hrel
                        have HF6 := Lib.hid (And.intro e1 hF)
                        clear e1 hF
                        rcases HF6.out.2.it.next (P := Tryz.prog) (fun h => by cases h; rfl) 0 with ⟨rfl, hnext⟩ | ⟨p6, lf6, w6, hp, hnext, hentry, hit', hk', hsz'⟩
                        · have kk : Keep NoB wo6 wr := HF6.out.2.keep
                          rw [HW6.out] at kk
                          have K6 := Lib.hid (K5.out.then kk)
                          have HB6 := Lib.hid (HB5.out.keep kk (NoB.not _))
                          have KK6 := Lib.hid kk
                          clear kk
                          have hc7 : wr.cell? ⟨w4.heap.size, 4, none⟩ = some (.map xc) := KK6.out.cell (KK5.out.cell (by simp) (NoB.not _)) (NoB.not _)
                          obtain ⟨o7, hrun7, hit7⟩ := ((HQ.out.2.2.2).keep K6.out (fun _ _ => NoB.not _)).range (w := wr) Tryz.underlying133
                          have HI7 := Lib.hid hit7
                          clear hit7
                          go_wp2_with fail
                          clear hrun7 hc7 hnext
                          obtain ⟨wo7, hwo7⟩ : ∃ wo : World, wo = wr := ⟨_, rfl⟩
                          have HW7 := Lib.hid hwo7
                          rw [← hwo7]
                          clear hwo7
                          go_loopg [] jc.length (fun k w2 => ∃ left, left.length = k ∧ Look wo7 w2 xc wo7.heap.size jc (· ∉ B3) left)
                          case atStart =>
                            rw [HW7.out]
                            exact ⟨jc, rfl, Look.start HI7.out⟩
                          case round =>
                            obtain ⟨left, e1, hF⟩ := hrel
                            have HF7 := Lib.hid (And.intro e1 hF)
                            clear e1 hF
                            rcases HF7.out.2.it.next (P := Tryz.prog) (fun h => by cases h; rfl) 0 with ⟨rfl, hnext⟩ | ⟨p7, lf7, w7, hp, hnext, hentry, hit', hk', hsz'⟩
                            · have kk : Keep NoB wo7 wr := HF7.out.2.keep
                              rw [HW7.out] at kk
                              have K7 := Lib.hid (K6.out.then kk)
                              have HB7 := Lib.hid (HB6.out.keep kk (NoB.not _))
                              have KK7 := Lib.hid kk
                              clear kk
                              have HM5 := Lib.hid HF5.out.2.done
                              have HM6 := Lib.hid HF6.out.2.done
                              have HM7 := Lib.hid HF7.out.2.done
                              have KK := Lib.hid (((Keep.alloc w4 (.cells #[.map an, .map xe, .map xn, .map xa, .map xc] 138) NoB).then KK5.out).then (KK6.out.then KK7.out))
                              go_wp2_with fail
                              go_roundg lf4.length
                              case measure =>
                                have h1 := HP4.out.1.length_eq
                                have h2 := HF4.out.1
                                rw [List.length_cons] at h1; omega
                              case rel =>
                                refine ⟨lf4, rfl, HF4.out.2.step HP4.out.1 HP4.out.2.1 HP4.out.2.2.1 KK.out ?_⟩
                                rintro x (hx | hx | hx)
                                · exact HM5.out x (HN.out.1 ▸ hx)
                                · exact HM6.out x (HN.out.2.1 ▸ hx)
                                · exact HM7.out x (HN.out.2.2.2 ▸ hx)
                            · have kk : Keep NoB wo7 w7 := HF7.out.2.keep' hk'
                              rw [HW7.out] at kk
                              have Kq7 := Lib.hid (K6.out.then kk)
                              have hl := (HB6.out.keep kk (NoB.not _)).lookupT Tryz.underlying252 Tryz.underlying188 p7.1
                              have HK := Lib.hid (And.intro hp (And.intro hit' hk'))
                              clear hp hit' hk' hsz' kk
                              by_cases hx : p7.1 ∈ B3
                              · have HX := Lib.hid hx
                                go_wp2_with (go_at_call 76; refine (errorsNew_c _ _).mono ?_; rintro e w' ⟨a, rfl, hk⟩)
                                go_ret
                                have hm := HP4.out.2.2.2
                                refine ⟨.inl ⟨⟨_, rfl⟩, _, hm, .inl ⟨_, ?_, (HBM.out _).1 HX.out⟩⟩, Kq7.out.then (by assumption)⟩
                                have h1 : p7.1 ∈ jc.map (·.1) := List.mem_map.2 ⟨_, HF7.out.2.mem HK.out.1, rfl⟩
                                rw [HN.out.2.2.2] at h1; exact .inr (.inr h1)
                              · have HX := Lib.hid hx
                                go_wp2_with fail
                                go_roundg lf7.length
                                case measure =>
                                  have h1 := HK.out.1.length_eq
                                  have h2 := HF7.out.1
                                  rw [List.length_cons] at h1; omega
                                case rel => exact ⟨lf7, rfl, HF7.out.2.step HK.out.1 HK.out.2.1 HK.out.2.2 (Keep.refl _ _) HX.out⟩
                        · have kk : Keep NoB wo6 w6 := HF6.out.2.keep' hk'
                          rw [HW6.out] at kk
                          have Kq6 := Lib.hid (K5.out.then kk)
                          have hl := (HB5.out.keep kk (NoB.not _)).lookupT Tryz.underlying252 Tryz.underlying188 p6.1
                          have HK := Lib.hid (And.intro hp (And.intro hit' hk'))
                          clear hp hit' hk' hsz' kk
                          by_cases hx : p6.1 ∈ B3
                          · have HX := Lib.hid hx
                            go_wp2_with (go_at_call 76; refine (errorsNew_c _ _).mono ?_; rintro e w' ⟨a, rfl, hk⟩)
                            go_ret
                            have hm := HP4.out.2.2.2
                            refine ⟨.inl ⟨⟨_, rfl⟩, _, hm, .inl ⟨_, ?_, (HBM.out _).1 HX.out⟩⟩, Kq6.out.then (by assumption)⟩
                            have h1 : p6.1 ∈ jn.map (·.1) := List.mem_map.2 ⟨_, HF6.out.2.mem HK.out.1, rfl⟩
                            rw [HN.out.2.1] at h1; exact .inr (.inl h1)
                          · have HX := Lib.hid hx
                            go_wp2_with fail
                            go_roundg lf6.length
                            case measure =>
                              have h1 := HK.out.1.length_eq
                              have h2 := HF6.out.1
                              rw [List.length_cons] at h1; omega
                            case rel => exact ⟨lf6, rfl, HF6.out.2.step HK.out.1 HK.out.2.1 HK.out.2.2 (Keep.refl _ _) HX.out⟩
                    · have kk : Keep NoB wo5 w5 := HF5.out.2.keep' hk'
                      rw [HW5.out] at kk
                      have Kq5 := Lib.hid (Ka4.out.then kk)
                      have hl := (HBa4.out.keep kk (NoB.not _)).lookupT Tryz.underlying252 Tryz.underlying188 p5.1
                      have HK := Lib.hid (And.intro hp (And.intro hit' hk'))
                      clear hp hit' hk' hsz' kk
                      by_cases hx : p5.1 ∈ B3
                      · have HX := Lib.hid hx
                        go_wp2_with (go_at_call 76; refine (errorsNew_c _ _).mono ?_; rintro e w' ⟨a, rfl, hk⟩)
                        go_ret
                        have hm := HP4.out.2.2.2
                        refine ⟨.inl ⟨⟨_, rfl⟩, _, hm, .inl ⟨_, ?_, (HBM.out _).1 HX.out⟩⟩, Kq5.out.then (by assumption)⟩
                        have h1 : p5.1 ∈ je.map (·.1) := List.mem_map.2 ⟨_, HF5.out.2.mem HK.out.1, rfl⟩
                        rw [HN.out.1] at h1; exact .inl h1
                      · have HX := Lib.hid hx
                        go_wp2_with fail
                        go_roundg lf5.length
                        case measure =>
                          have h1 := HK.out.1.length_eq
                          have h2 := HF5.out.1
                          rw [List.length_cons] at h1; omega
                        case rel => exact ⟨lf5, rfl, HF5.out.2.step HK.out.1 HK.out.2.1 HK.out.2.2 (Keep.refl _ _) HX.out⟩
            · obtain ⟨o2, hupd, hB3⟩ := (HF3.out.2.set' hk').updateT Tryz.underlying252 Tryz.underlying188 p3.1
              have HK := Lib.hid (And.intro hp (And.intro hit' (And.intro hk' hB3)))
              clear hp hit' hk' hsz' hB3
              go_wp2_with fail
              go_roundg lf3.length
              case measure =>
                have h1 := HK.out.1.length_eq
                have h2 := HF3.out.1
                rw [List.length_cons] at h1; omega
              case rel => exact ⟨lf3, _, rfl, HF3.out.2.step HK.out.1 HK.out.2.1 HK.out.2.2.1 HK.out.2.2.2⟩
        · obtain ⟨o2, hupd, hB3⟩ := (HF2.out.2.set' hk').updateT Tryz.underlying252 Tryz.underlying188 p2.1
          have HK := Lib.hid (And.intro hp (And.intro hit' (And.intro hk' hB3)))
          clear hp hit' hk' hsz' hB3
          go_wp2_with fail
          go_roundg lf2.length
          case measure =>
            have h1 := HK.out.1.length_eq
            have h2 := HF2.out.1
            rw [List.length_cons] at h1; omega
          case rel => exact ⟨lf2, _, rfl, HF2.out.2.step HK.out.1 HK.out.2.1 HK.out.2.2.1 HK.out.2.2.2⟩
    · obtain ⟨o2, hupd, hB3⟩ := (HF1.out.2.set' hk').updateT Tryz.underlying252 Tryz.underlying188 p1.1
      have HK := Lib.hid (And.intro hp (And.intro hit' (And.intro hk' hB3)))
      clear hp hit' hk' hsz' hB3
      go_wp2_with fail
      go_roundg lf1.length
      case measure =>
        have h1 := HK.out.1.length_eq
        have h2 := HF1.out.1
        rw [List.length_cons] at h1; omega
      case rel => exact ⟨lf1, _, rfl, HF1.out.2.step HK.out.1 HK.out.2.1 HK.out.2.2.1 HK.out.2.2.2⟩
end Go.Proofs.YtedgonoeeeiilaaGreatDoor
