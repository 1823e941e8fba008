/- slices.SortedFunc(maps.Keys(m), ..) at a map that holds nothing: an empty slice. -/
import Derived.Test.YthhjehajdcgkhaaGreatDoorMty
import Derived.RangeFuncOwn
import Derived.Test.YthhjehajdcgkhaaGreatDoorShelf
namespace Go.Proofs.YthhjehajdcgkhaaGreatDoor
open Go.RowKit

/-- A range over an iterator that gives nothing. -/
theorem rangeFunc_none {P : Program} {g : Operand} {ps : Array Tmp} {assign body : Code} {Q : Exit → Act → World → Prop} {a : Act} {w : World} {n : Nat} {gf : Nat} {lb : Array Value} (hg : a.eval g = .func (.func gf) #[] lb)
    (eg : ∀ args w, (callFunc gf args).run P w = .ok (.enter gf args) w)
    (hseq : ∀ (l : Nat) (W : World), Keep NoB w W → CallsIn Fence.wide (n - 1) P gf (#[.func (.yield l) #[] #[]] ++ lb) W (fun e W' => (∃ v, e = .returned v) ∧ Keep NoB W W'))
    (hdone : ∀ W : World, Keep NoB w W → W.heap[w.heap.size]? = some (.deferred (some [])) → Q .normal { a with defers := { target := .collected w.heap.size, args := #[] } :: a.defers } W) :
    (Code.rangeFunc g ps assign body).wpIn Fence.wide n P Q a w := by
  refine wpIn_rangeFunc ?_
  intro fn hfn
  rw [show Fence.wide.round = none from rfl]
  obtain ⟨rec, hrec⟩ : ∃ rec : LoopState → Option Code → Loop, rec = fun st pe => { state := st, pending := pe, fn, tmps := a.tmps, params := ps, assign, body, defers := w.heap.size } := ⟨_, rfl⟩
  obtain ⟨W1, hW1⟩ : ∃ W1, (w.alloc (.deferred (some []))).alloc (.loop (rec .ready none)) = W1 := ⟨_, rfl⟩
  have hL1 : W1.heap[w.heap.size + 1]? = some (.loop (rec .ready none)) := by
    rw [← hW1]; have := World.alloc_heap_new (w.alloc (.deferred (some []))) (.loop (rec .ready none)); rwa [World.size_alloc] at this
  have hK1 : W1.heap[w.heap.size]? = some (.deferred (some [])) := by
    rw [← hW1]; exact (Below.heap_alloc _ _ _ (by simp)).trans (World.alloc_heap_new w _)
  have k1 : Keep NoB w W1 := hW1 ▸ ((Keep.alloc w _ NoB).then (Keep.alloc _ _ NoB))
  refine ⟨w.heap.size + 1, [{ target := .collected w.heap.size, args := #[] }], W1, { target := .fn (.func gf) lb, args := #[.func (.yield (w.heap.size + 1)) #[] #[]] }, W1, gf,
    #[.func (.yield (w.heap.size + 1)) #[] #[]] ++ lb, W1, ?_, ?_, ?_, ?_, (fun h => by simp [Fence.wide] at h), ?_⟩
  · rw [← hW1, hrec]; exact run_enterLoop_outer _ _ _ _ _
  · simp only [resolve, hg]
    simp [go_sem]
  · intro f' hf'; trivial
  · simp [invoke, go_sem, eg]
  · refine (hseq (w.heap.size + 1) W1 k1).mono ?_
    rintro e W2 ⟨⟨v, rfl⟩, k2⟩
    have hL2 := k2.heap hL1 (NoB.not _)
    have hK2 := k2.heap hK1 (NoB.not _)
    have kp : ∀ o, Keep (· = w.heap.size + 1) W2 (W2.putObj (w.heap.size + 1) o) := fun o => Keep.grown (grownBy_putObj' _ _ _) (fun i hi _ => by cases hi; rfl)
    refine ⟨none, _, by have := run_endLoop (P := P) hL2 (by rw [hrec]; simp); rw [hrec] at this; exact this, hdone _ ((k1.then k2).trans (kp _) (fun _ _ h => h) (fun i hi h => by omega)) ((World.putObj_heap_other (by omega)).trans hK2)⟩

theorem keysAct_c (m : Option Nat) (w : World) : Calls Tryz.prog 25 #[.map m] w fun e w' => e = .returned (.func (.func 48) #[] #[.pointer (some ⟨w.heap.size, 0, none⟩)]) ∧ w' = w.alloc (.cells #[.map m] 93) := by
  go_enter Tryz.func25, Tryz.ntmps25
  go_wp2_with fail
  go_ret
  exact ⟨rfl, rfl⟩

/-- The iterator over a map that holds nothing. -/
theorem iterAct_none (n l b : Nat) (o : Nat) (W : World) (hm : W.cell? ⟨b, 0, none⟩ = some (.map (some o))) (h : KMap Value.string W o []) :
    CallsIn Fence.wide n Tryz.prog 48 #[.func (.yield l) #[] #[], .pointer (some ⟨b, 0, none⟩)] W (fun e W' => (∃ v, e = .returned v) ∧ Keep NoB W W') := by
  obtain ⟨ob, hrg, hit⟩ := KMapO.range (P := Tryz.prog) (m := some o) h Tryz.underlying93
  have hnx : ∀ ty, (Instr.next (.pointer (some ⟨W.heap.size, 0, none⟩)) false ty).run Tryz.prog (W.alloc ob) = .ok (.tuple #[.bool false]) (W.alloc ob) := fun ty => by
    rcases hit.next (P := Tryz.prog) (fun h => by cases h; rfl) ty with ⟨_, h⟩ | ⟨p, l', w', hp, _⟩
    · exact h
    · have := hp.length_eq; simp at this
  clear hit h
  refine callsIn_of_wp Tryz.func48 rfl trivial ?_ rfl
  simp only [Tryz.ntmps48, List.size_toArray, List.length_cons, List.length_nil, Nat.reduceAdd, Nat.reduceSub, Array.replicate_succ, Array.replicate_zero, List.push_toArray, List.append_toArray, List.nil_append, List.cons_append]
  gi_wp2
  refine wpIn_loop_rounds 1 ?_
  rw [roundsIn_succ]
  gi_wp2
  go_end0
  exact ⟨⟨_, rfl⟩, Keep.alloc _ _ _⟩

theorem enters48 : ∀ args w, (callFunc 48 args).run Tryz.prog w = .ok (.enter 48 args) w := enters_of Tryz.func48 (by kernel_rfl) rfl
set_option maxRecDepth 100000 in
theorem appendSeq_none (n b o : Nat) (w : World) (hm : w.cell? ⟨b, 0, none⟩ = some (.map (some o))) (h : KMap Value.string w o []) :
    CallsIn Fence.wide n Tryz.prog 69 #[.slice none 0 0, .func (.func 48) #[] #[.pointer (some ⟨b, 0, none⟩)]] w (fun e W' => e = .returned (.slice none 0 0) ∧ Keep NoB w W') := by
  have HA := Lib.hid (And.intro hm h)
  clear hm h
  refine callsIn_of_wp_marks Tryz.func69 rfl trivial ?_ rfl
  simp only [Tryz.ntmps69, List.size_toArray, List.length_cons, List.length_nil, Nat.reduceAdd, Nat.reduceSub, Array.replicate_succ, Array.replicate_zero, List.push_toArray, List.append_toArray, List.nil_append, List.cons_append]
  gi_wp2
  obtain ⟨w0, hw0⟩ : ∃ w0, w0 = w.alloc (.cells #[.slice none 0 0] 100) := ⟨_, rfl⟩
  have k0 : Keep NoB w w0 := hw0 ▸ Keep.alloc _ _ _
  have hb0 : w0.heap[w.heap.size]? = some (.cells #[.slice none 0 0] 100 (0, 0)) := hw0 ▸ (MapKept.heap_alloc _ _).1
  rw [← hw0]
  clear hw0
  have HB := Lib.hid (And.intro k0 hb0)
  clear k0 hb0
  refine rangeFunc_none (gf := 48) (lb := #[.pointer (some ⟨b, 0, none⟩)]) rfl enters48 (fun l W k => iterAct_none _ l b o W ((HB.out.1.then k).cell HA.out.1 (NoB.not _)) (HA.out.2.keep (HB.out.1.then k) (NoB.not _))) ?_
  intro W k hK
  have c0 : W.cell? ⟨w.heap.size, 0, none⟩ = some (.slice none 0 0) := k.cell (by rw [cell_cells HB.out.2]; rfl) (NoB.not _)
  have HC := Lib.hid (And.intro k hK)
  clear k hK
  gi_wp2
  obtain ⟨k, hK⟩ := HC.out
  refine ⟨by simp, .inl ⟨_, _, rfl, run_takeDeferred hK, ?_⟩⟩
  have kp : ∀ o, Keep (· = w0.heap.size) W (W.putObj w0.heap.size o) := fun o => Keep.grown (grownBy_putObj' _ _ _) (fun i hi _ => by cases hi; rfl)
  have hs := HB.out.1.size
  exact ⟨_, results_tmp rfl _ _ _, rfl, (HB.out.1.then k).trans (kp _) (fun _ _ h => h) (fun i hi h => by omega)⟩
theorem collect_none (n b o : Nat) (w : World) (hm : w.cell? ⟨b, 0, none⟩ = some (.map (some o))) (h : KMap Value.string w o []) :
    Calls Tryz.prog 46 #[.func (.func 48) #[] #[.pointer (some ⟨b, 0, none⟩)]] w (fun e W' => e = .returned (.slice none 0 0) ∧ Keep NoB w W') := by
  have HA := Lib.hid (callsIn_wide.1 (appendSeq_none n b o w hm h))
  clear hm h
  go_enter Tryz.func46, Tryz.ntmps46
  go_wp2_with fail
  refine HA.out.mono ?_
  rintro e w1 ⟨rfl, k⟩
  have HK := Lib.hid k
  clear k
  go_wp2_with fail
  go_ret
  exact ⟨rfl, HK.out⟩

theorem insertion_none (w : World) (f : Value) : Calls Tryz.prog 108 #[.slice none 0 0, .int .i64 0, .int .i64 0, f] w fun e w' => (∃ v, e = .returned v) ∧ w' = w := by
  go_enter Tryz.func108, Tryz.ntmps108
  go_wp2_with fail
  refine wp_loop_rounds 1 ?_
  rw [rounds_succ]
  go_wp2_with fail
  go_end0
  exact ⟨⟨_, rfl⟩, rfl⟩
theorem len_0 (w : World) : Calls Tryz.prog 65 #[.int .u64 0] w fun e w' => e = .returned (.int .i64 0) ∧ w' = w :=
  (Tryz.bits_Len 0 w (by omega) (by omega)).mono fun e w' h => by
    obtain ⟨h1, h2⟩ := h
    exact ⟨by rw [h1]; rfl, h2⟩
set_option maxRecDepth 100000 in
theorem pdq_none (w : World) (f : Value) : Calls Tryz.prog 70 #[.slice none 0 0, .int .i64 0, .int .i64 0, .int .i64 0, f] w fun e w' => (∃ v, e = .returned v) ∧ w' = w := by
  go_enter Tryz.func70, Tryz.ntmps70
  go_wp2_with fail
  refine wp_loop_rounds 1 ?_
  rw [rounds_succ]
  go_wp2_with (go_at_call 108; refine (insertion_none _ _).mono ?_; rintro e w' ⟨⟨v, rfl⟩, rfl⟩)
  refine bodyPost_ret (results_none rfl _ _ _) rfl ⟨⟨_, rfl⟩, rfl⟩
theorem sortFunc_none (w : World) (f : Value) : Calls Tryz.prog 47 #[.slice none 0 0, f] w fun e w' => (∃ v, e = .returned v) ∧ w' = w := by
  go_enter Tryz.func47, Tryz.ntmps47
  go_wp2_with (first
    | (go_at_call 65; refine (len_0 _).mono ?_; rintro e w' ⟨rfl, rfl⟩)
    | (go_at_call 70; refine (pdq_none _ _).mono ?_; rintro e w' ⟨⟨v, rfl⟩, rfl⟩))
  first
    | refine bodyPost_end (results_none rfl _ _ _) rfl ⟨⟨_, rfl⟩, rfl⟩
    | refine bodyPost_ret (results_none rfl _ _ _) rfl ⟨⟨_, rfl⟩, rfl⟩
theorem sortedFunc_none (n b o : Nat) (w : World) (f : Value) (hm : w.cell? ⟨b, 0, none⟩ = some (.map (some o))) (h : KMap Value.string w o []) :
    Calls Tryz.prog 24 #[.func (.func 48) #[] #[.pointer (some ⟨b, 0, none⟩)], f] w (fun e W' => e = .returned (.slice none 0 0) ∧ Keep NoB w W') := by
  have HA := Lib.hid (collect_none n b o w hm h)
  clear hm h
  go_enter Tryz.func24, Tryz.ntmps24
  go_wp2_with fail
  refine HA.out.mono ?_
  rintro e w1 ⟨rfl, k⟩
  have HK := Lib.hid k
  clear k
  go_wp2_with (go_at_call 47; refine (sortFunc_none _ _).mono ?_; rintro e w' ⟨⟨v, rfl⟩, rfl⟩)
  go_ret
  exact ⟨rfl, HK.out⟩
end Go.Proofs.YthhjehajdcgkhaaGreatDoor
