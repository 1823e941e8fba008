/- The walks of the two functions on actions, where there are none. -/
import Derived.Test.YthhjehajdcgkhaaGreatDoorWg
import Derived.Test.YthhjehajdcgkhaaGreatDoorOut
import Derived.Laws.EntriesVeiled
namespace Go.Proofs.YthhjehajdcgkhaaGreatDoor
open Go.RowKit

set_option maxRecDepth 100000 in
set_option maxHeartbeats 4000000 in
theorem resolveActions0_c (w : World) (v0 v3 : Value) (ns : Str) (ma : Option Nat) (h0 : ∃ b, v0 = .pointer (some ⟨b, 0, none⟩)) (h3 : ∃ b, v3 = .pointer (some ⟨b, 0, none⟩)) (hm : KMapO Value.string w ma []) :
    Calls Tryz.prog 61 #[v0, .string ns, .map ma, v3] w fun e w' => e = .returned .nilIface ∧ Keep NoB w w' := by
  obtain ⟨b, rfl⟩ := h0
  obtain ⟨b3, rfl⟩ := h3
  obtain ⟨o1, hr1, hi1⟩ := hm.range (w := w) Tryz.underlying140
  have hn1 := hi1.over (P := Tryz.prog) (fun h => by cases h; rfl) 0
  have K := Lib.hid (Keep.alloc w o1 NoB)
  clear hi1 hm
  go_enter Tryz.func61, Tryz.ntmps61
  go_wp2_with fail
  refine wp_loop_once ?_
  go_wp2_with fail
  go_ret
  exact ⟨rfl, K.out⟩

set_option maxRecDepth 100000 in
set_option maxHeartbeats 4000000 in
theorem validate0_c (w : World) (v0 : Value) (bo oA : Nat) (c3 : w.cell? ⟨bo, 3, none⟩ = some (.map (some oA))) (hm : KMapO Value.string w (some oA) []) :
    Calls Tryz.prog 62 #[v0, .pointer (some ⟨bo, 0, none⟩)] w fun e w' => e = .returned .nilIface ∧ Keep NoB w w' := by
  have hmm := @run_makeMap Tryz.prog
  have kA := (((Keep.alloc w (Obj.cells #[Value.pointer (some ⟨bo, 0, none⟩)] 71) NoB).then (Keep.alloc _ (Obj.cells #[Value.nilIface] 73) NoB)).then (Keep.alloc _ (.map #[] 0) NoB)).then (Keep.alloc _ (.cells #[.map (some (w.heap.size + 1 + 1))] 277) NoB)
  have cA := kA.cell c3 (NoB.not _)
  obtain ⟨o1, hrA, hiA⟩ := (hm.keep kA (fun _ _ => NoB.not _)).range Tryz.underlying93
  have hnA := hiA.over (P := Tryz.prog) (fun h => by cases h; rfl) 0
  have kB := kA.then (Keep.alloc _ o1 NoB)
  have cB := kB.cell c3 (NoB.not _)
  obtain ⟨o2, hrB, hiB⟩ := (hm.keep kB (fun _ _ => NoB.not _)).range Tryz.underlying93
  have hnB := hiB.over (P := Tryz.prog) (fun h => by cases h; rfl) 0
  have kC := kB.then (Keep.alloc _ o2 NoB)
  have kF := ((kC.then (Keep.alloc _ (.map #[] 0) NoB)).then (Keep.alloc _ (.cells #[.map (some (w.heap.size + 1 + 1 + 1 + 1 + 1 + 1))] 278) NoB)).then (Keep.alloc _ (.cells #[.func (.func 94) #[] #[.pointer (some ⟨w.heap.size + 1 + 1 + 1 + 1 + 1 + 1 + 1, 0, none⟩), .pointer (some ⟨w.heap.size, 0, none⟩), .pointer (some ⟨w.heap.size + 1 + 1 + 1 + 1 + 1 + 1 + 1 + 1, 0, none⟩)]] 279) NoB)
  have cF := kF.cell c3 (NoB.not _)
  obtain ⟨o3, hrC, hiC⟩ := (hm.keep kF (fun _ _ => NoB.not _)).range Tryz.underlying93
  have hnC := hiC.over (P := Tryz.prog) (fun h => by cases h; rfl) 0
  have KC := Lib.hid (kF.then (Keep.alloc _ o3 NoB))
  have kE := (((((((Keep.alloc ((w.alloc (Obj.cells #[Value.pointer (some ⟨bo, 0, none⟩)] 71)).alloc (Obj.cells #[Value.nilIface] 73)) (.map #[] 0) NoB).then (Keep.alloc _ (.cells #[.map (some (w.heap.size + 1 + 1))] 277) NoB)).then (Keep.alloc _ o1 NoB)).then (Keep.alloc _ o2 NoB)).then (Keep.alloc _ (.map #[] 0) NoB)).then (Keep.alloc _ (.cells #[.map (some (w.heap.size + 1 + 1 + 1 + 1 + 1 + 1))] 278) NoB)).then (Keep.alloc _ (.cells #[.func (.func 94) #[] #[.pointer (some ⟨w.heap.size + 1 + 1 + 1 + 1 + 1 + 1 + 1, 0, none⟩), .pointer (some ⟨w.heap.size, 0, none⟩), .pointer (some ⟨w.heap.size + 1 + 1 + 1 + 1 + 1 + 1 + 1 + 1, 0, none⟩)]] 279) NoB)).then (Keep.alloc _ o3 NoB)
  have hE0 : ((w.alloc (Obj.cells #[Value.pointer (some ⟨bo, 0, none⟩)] 71)).alloc (Obj.cells #[Value.nilIface] 73)).cell? ⟨w.heap.size + 1, 0, none⟩ = some .nilIface := by
    have h := (MapKept.heap_alloc (w.alloc (Obj.cells #[Value.pointer (some ⟨bo, 0, none⟩)] 71)) (Obj.cells #[Value.nilIface] 73)).1
    rw [World.size_alloc] at h; rw [cell_cells h]; rfl
  have cE := kE.cell hE0 (NoB.not _)
  have CE := Lib.hid cE
  clear kE cE hE0
  simp only [World.size_alloc] at hnA hrA hrB hnB hrC hnC
  clear kA kB kC kF hiA hiB hiC
  go_enter Tryz.func62, Tryz.ntmps62
  go_wp2_with fail
  refine wp_loop_once ?_
  go_wp2_with fail
  refine wp_loop_once ?_
  go_wp2_with fail
  refine wp_loop_once ?_
  go_wp2_with fail
  refine bodyPost_ret (v := .nilIface) ?_ rfl ⟨rfl, KC.out⟩
  have cE := CE.out
  simp [results, Tryz.results62, go_sem, cE, Result.andThen]
end Go.Proofs.YthhjehajdcgkhaaGreatDoor
