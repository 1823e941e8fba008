/- The walk of the function that looks for circles among common types, where there are none. -/
import Derived.Test.YtedgonoeeeiilaaGreatDoorLoop
import Derived.Carry
namespace Go.Proofs.YtedgonoeeeiilaaGreatDoor
open Go.RowKit

theorem KIter.over {κ : Type} {P : Program} {enc : κ → Value} {w : World} {m : Option Nat} {r : Nat} {l : List (κ × Value)} (h : KIter enc w m r l []) (hinj : ∀ {a b : κ}, enc a = enc b → a = b) (ty : TypeId) :
    (Instr.next (.pointer (some ⟨r, 0, none⟩)) false ty).run P w = .ok (.tuple #[.bool false]) w := by
  rcases h.next (P := P) hinj ty with ⟨_, h⟩ | ⟨p, left', w', hp, _⟩
  · exact h
  · exact absurd hp.length_eq (by simp)

set_option maxRecDepth 100000 in
set_option maxHeartbeats 4000000 in
theorem detectCycles0_c (w : World) (M : Nat → Prop) (b mE mN mC : Nat) (V : Env) (hS : RS w M b mE mN mC V) (hC : V.C = []) :
    Calls Tryz.prog 53 #[.pointer (some ⟨b, 0, none⟩)] w fun e w' => e = .returned .nilIface ∧ Keep NoB w w' := by
  obtain ⟨lv, hm, hR⟩ := hS.commons
  obtain rfl : lv = [] := List.eq_nil_of_length_eq_zero (by rw [hR.len, hC]; rfl)
  have c2 := hS.c2
  clear hS hR hC
  have hm : KMapO Value.string w (some mC) [] := hm
  have hmm := @run_makeMap Tryz.prog
  have k0 : Keep NoB w (w.alloc (.map #[] 0)) := Keep.alloc _ _ _
  have hd0 : KMapO Value.string (w.alloc (.map #[] 0)) (some w.heap.size) [] := KMap.made w
  obtain ⟨o1, hr1, hi1⟩ := (hm.keep k0 (fun _ _ => NoB.not _)).range Tryz.underlying207
  have k1 := k0.then (Keep.alloc (w.alloc (.map #[] 0)) o1 NoB)
  have hn1 := hi1.over (P := Tryz.prog) (fun h => by cases h; rfl) 0
  rw [show (w.alloc (.map #[] 0)).heap.size = w.heap.size + 1 by simp] at hn1
  have hd1 := hd0.keep (Keep.alloc (w.alloc (.map #[] 0)) o1 NoB) (fun _ _ => NoB.not _)
  have k2 := k1.then (Keep.alloc ((w.alloc (.map #[] 0)).alloc o1) (.map #[] 0) NoB)
  have hg2 : KMapO Value.string (((w.alloc (.map #[] 0)).alloc o1).alloc (.map #[] 0)) (some ((w.alloc (.map #[] 0)).alloc o1).heap.size) [] := KMap.made _
  have hd2 := hd1.keep (Keep.alloc ((w.alloc (.map #[] 0)).alloc o1) (.map #[] 0) NoB) (fun _ _ => NoB.not _)
  obtain ⟨o2, hr2, hi2⟩ := (hm.keep k2 (fun _ _ => NoB.not _)).range Tryz.underlying207
  have hn2 := hi2.over (P := Tryz.prog) (fun h => by cases h; rfl) 0
  obtain ⟨o3, hr3, hi3⟩ := (hd2.keep (Keep.alloc _ o2 NoB) (fun _ _ => NoB.not _)).range Tryz.underlying254
  have hn3 := hi3.over (P := Tryz.prog) (fun h => by cases h; rfl) 0
  obtain ⟨o4, hr4, hi4⟩ := ((hg2.keep (Keep.alloc _ o2 NoB) (fun _ _ => NoB.not _)).keep (Keep.alloc _ o3 NoB) (fun _ _ => NoB.not _)).range Tryz.underlying260
  have hn4 := hi4.over (P := Tryz.prog) (fun h => by cases h; rfl) 0
  have k5 := ((k2.then (Keep.alloc _ o2 NoB)).then (Keep.alloc _ o3 NoB)).then (Keep.alloc _ o4 NoB)
  have hlen := (hm.keep k5 (fun _ _ => NoB.not _)).len Tryz.underlying207 3
  have K5 := Lib.hid k5
  have ca := k0.cell c2 (NoB.not _)
  have cb := k2.cell c2 (NoB.not _)
  have cd := k5.cell c2 (NoB.not _)
  simp only [World.size_alloc, List.length_nil, Nat.add_assoc, Nat.reduceAdd] at hn2 hn3 hn4 hr2 hr3 hr4 hlen
  clear k0 k1 k2 k5 hd0 hd1 hd2 hg2 hi1 hi2 hi3 hi4 hm
  go_enter Tryz.func53, Tryz.ntmps53
  go_wp2_with fail
  refine wp_loop_once ?_
  go_wp2_with fail
  refine wp_loop_once ?_
  go_wp2_with fail
  refine wp_loop_once ?_
  go_wp2_with fail
  refine wp_loop_once ?_
  go_wp2_with fail
  refine wp_loop_once ?_
  go_wp2_with fail
  go_ret
  exact ⟨rfl, K5.out⟩
end Go.Proofs.YtedgonoeeeiilaaGreatDoor
