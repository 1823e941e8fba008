/- slices.SortedFunc over iterators of identifiers. -/
import Derived.Test.YtedgonoeeeiilaaGreatDoorSqx
import Derived.Test.YtedgonoeeeiilaaGreatDoorSuLay
namespace Go.Proofs.YtedgonoeeeiilaaGreatDoor
open Go.RowKit Go.Sort Go.Shelf

theorem keysAct_c (m : Option Nat) (w : World) : Calls Tryz.prog 20 #[.map m] w fun e w' => e = .returned (.func (.func 43) #[] #[.pointer (some ⟨w.heap.size, 0, none⟩)]) ∧ w' = w.alloc (.cells #[.map m] 82) := by
  go_enter Tryz.func20, Tryz.ntmps20
  go_wp2_with fail
  go_ret
  exact ⟨rfl, rfl⟩
theorem uidsAll_c (m : Option Nat) (w : World) : Calls Tryz.prog 44 #[.agg #[.map m]] w fun e w' => e = .returned (.func (.func 66) #[] #[.pointer (some ⟨w.heap.size, 0, none⟩)]) ∧ w' = w.alloc (.cells #[.map m] 167) := by
  go_enter Tryz.func44, Tryz.ntmps44
  go_wp2_with fail
  go_ret
  exact ⟨rfl, rfl⟩
theorem uidsAllI_c (m : Option Nat) (w : World) : Calls Tryz.prog 23 #[.agg #[.map m]] w fun e w' => ∃ b, e = .returned (.func (.func 66) #[] #[.pointer (some ⟨b, 0, none⟩)]) ∧ w.heap.size ≤ b ∧ w'.heap[b]? = some (.cells #[.map m] 167 (0, 0)) ∧ Keep NoB w w' := by
  go_enter Tryz.func23, Tryz.ntmps23
  go_wp2_with fail
  refine (uidsAll_c m _).mono ?_
  rintro e w2 ⟨rfl, rfl⟩
  go_wp2_with fail
  go_ret
  have hb := (MapKept.heap_alloc (w.alloc (.cells #[.map m] 103)) (.cells #[.map m] 167)).1
  rw [World.size_alloc] at hb
  exact ⟨_, rfl, by omega, hb, (Keep.alloc _ _ NoB).then (Keep.alloc _ _ _)⟩

/-- Identifiers in order, each once or more. -/
def SortedU (keys : List Uid) (w : World) (e : Ending) (w' : World) : Prop :=
  ∃ (ks : List Uid) (o : Option Addr) (c : Nat), e = .returned (.slice o ks.length c) ∧ ks.Perm keys ∧ ks.Pairwise (fun x y => ¬ ltU y x) ∧ UidsAt w' (· < w.heap.size) ks (.slice o ks.length c) ∧ Keep NoB w w'

theorem collectU_c (w : World) (gf : Nat) (lb : Array Value) (b : Nat) (keys : List Uid) (N : Nat) (hb : b < w.heap.size) (eg : ∀ args w, (callFunc gf args).run Tryz.prog w = .ok (.enter gf args) w)
    (hseq : SeqStopsK Fence.wide 4 Tryz.prog gf lb (fun u => #[encU u]) (KpM b) (fun xs => xs.Perm keys) (fun _ => True) N w) (hN : N ≤ 1000000) :
    Calls Tryz.prog 41 #[.func (.func gf) #[] lb] w fun e w' => ∃ v xs, e = .returned v ∧ xs.Perm keys ∧ w'.ownsRow w.heap.size 96 2 v xs.length (uidCells xs) ∧ Keep NoB w w' := by
  have H := Lib.hid (callsIn_wide.1 (appendSeqU_c 5 (by omega) w gf lb b keys N hb eg hseq hN))
  clear eg hseq hb
  go_enter Tryz.func41, Tryz.ntmps41
  go_wp2_with fail
  refine H.out.mono ?_
  rintro e w2 ⟨v, xs, rfl, h1, h2, h3⟩
  have HX := Lib.hid (And.intro h1 (And.intro h2 h3))
  clear h1 h2 h3
  go_wp2_with fail
  go_ret
  exact ⟨v, xs, rfl, HX.out⟩

theorem mergeU (xs : List Uid) : (xs.mergeSort fun x y => !(ltOf cmpU) y x).Pairwise (fun x y => ¬ ltU y x) := by
  have h : (xs.mergeSort fun x y => !(ltOf cmpU) y x).Pairwise (fun x y => (!(ltOf cmpU) y x) = true) := by
    refine List.pairwise_mergeSort (fun a b c h k => ?_) (fun a b => ?_) xs
    · simp only [Bool.not_eq_true'] at h k ⊢
      exact swoU.ntrans c b a k h
    · simp only [Bool.or_eq_true, Bool.not_eq_true']
      by_cases h : ltOf cmpU b a = true
      · refine .inr ?_
        rw [Bool.eq_false_iff, Ne, ltOf_cmpU]
        rw [ltOf_cmpU] at h
        exact fun k => ltU_irrefl _ (ltU_trans h k)
      · exact .inl (Bool.eq_false_iff.2 h)
  refine h.imp fun {x y} hx => ?_
  rw [← ltOf_cmpU]
  simpa using hx

set_option maxHeartbeats 4000000 in
theorem sortFuncU_c (w : World) (base : Nat) (v : Value) (xs : List Uid) (hown : w.ownsRow base 96 2 v xs.length (uidCells xs)) (hL : xs.length ≤ 1000000) :
    Calls Tryz.prog 42 #[v, .func (.func 21) #[] #[]] w fun e w' => e = .returned (.tuple #[]) ∧ ∃ ks o c, ks.Perm xs ∧ ks.Pairwise (fun x y => ¬ ltU y x) ∧ v = .slice o ks.length c ∧ (∀ M : Nat → Prop, (∀ i, M i → i < base) → UidsAt w' M ks v) ∧ Keep (fun i => base ≤ i) w w' := by
  obtain ⟨h1, h2⟩ := hown
  cases xs with
  | nil =>
    obtain ⟨o, c, hv⟩ : ∃ o c, v = .slice o 0 c := by
      rcases h2 with ⟨rfl, _⟩ | ⟨g, cap, cur, rfl, _⟩ <;> exact ⟨_, _, rfl⟩
    subst hv
    refine (AnyF.slices_SortFunc_none Tryz.sortU o c (.func (.func 21) #[] #[]) w).mono ?_
    rintro e w' ⟨rfl, rfl⟩
    exact ⟨rfl, [], o, c, .nil, .nil, rfl, fun M hM => ⟨o, c, rfl, .inl rfl⟩, Keep.refl _ _⟩
  | cons x xs =>
    rcases h2 with ⟨_, h0⟩ | ⟨g, cap, cur, rfl, hb, hh, hc, _, hs, ht⟩
    · simp at h0
    · have hH := holdsU hh ht
      have eg : ∀ args w, (callFunc 21 args).run Tryz.prog w = .ok (.enter 21 args) w := enters_of Tryz.func21 (by kernel_rfl) rfl
      have hblk : g < w.heap.size := (Array.getElem?_eq_some_iff.1 hh).1
      have hcmp : CmpLays Tryz.prog 21 #[] encUc 2 cmpU g 0 (x :: xs).toArray.size w := fun _ _ _ _ a b => implBefore_c a b _
      have hcon := AnyQ.slices_SortFunc_total Tryz.sortU 2 Tryz.isAgg96 Tryz.sizeOf96 encUc (fun _ => rfl) (fun u v hv => by simp [encUc] at hv; rcases hv with rfl | rfl <;> rfl) cmpU swoU 21 #[] g 0 cap (x :: xs).toArray w eg hcmp hH hblk (by rw [List.size_toArray]; omega) totU
      rw [List.size_toArray] at hcon
      refine hcon.mono ?_
      rintro e w' ⟨rfl, n, os, rfl⟩
      obtain ⟨ks, hks⟩ : ∃ ks, ks = (x :: xs).mergeSort fun x y => !(ltOf cmpU) y x := ⟨_, rfl⟩
      have hp : ks.Perm (x :: xs) := hks ▸ List.mergeSort_perm _ _
      have hw : ks.Pairwise (fun x y => ¬ ltU y x) := hks ▸ mergeU _
      rw [← hks]
      have hl : ks.length = (x :: xs).length := hp.length_eq
      have hH2 : HoldsK encUc 2 (sortWorldK encUc 2 w g 0 n ks.toArray os) g 0 ks.toArray := holdsK_sortWorldK encUc 2 w g 0 n _ _ os hblk hH (by simp [hl])
      refine ⟨rfl, ks, some ⟨g, 0, none⟩, cap, hp, hw, by rw [hl], fun M hM => ?_, (keep_sortWorldK encUc 2 w g 0 n _ os).mono fun i _ e => by omega⟩
      rw [← hl]
      exact uidsAt_holds hH2 (fun h => by have := hM g h; omega)

set_option maxHeartbeats 4000000 in
theorem sortedFuncU_c (w : World) (gf : Nat) (lb : Array Value) (b : Nat) (keys : List Uid) (N : Nat) (hb : b < w.heap.size) (eg : ∀ args w, (callFunc gf args).run Tryz.prog w = .ok (.enter gf args) w)
    (hseq : SeqStopsK Fence.wide 4 Tryz.prog gf lb (fun u => #[encU u]) (KpM b) (fun xs => xs.Perm keys) (fun _ => True) N w) (hN : N ≤ 1000000) (hk : keys.length ≤ 1000000) :
    Calls Tryz.prog 19 #[.func (.func gf) #[] lb, .func (.func 21) #[] #[]] w (SortedU keys w) := by
  have H := Lib.hid (collectU_c w gf lb b keys N hb eg hseq hN)
  clear eg hseq hb
  go_enter Tryz.func19, Tryz.ntmps19
  go_wp2_with fail
  refine H.out.mono ?_
  rintro e w2 ⟨v, xs, rfl, h1, h2, h3⟩
  have HX := Lib.hid (And.intro h1 (And.intro h2 h3))
  have hl := h1.length_eq
  have HS := Lib.hid (sortFuncU_c w2 _ v xs h2 (by omega))
  clear h1 h2 h3
  go_wp2_with fail
  refine HS.out.mono ?_
  rintro e w3 ⟨rfl, ks, o, c, hp, hw, hv, hu, k3⟩
  have HY := Lib.hid (And.intro hp (And.intro hw (And.intro hv (And.intro hu k3))))
  clear hp hw hv hu k3
  go_wp2_with fail
  go_ret
  obtain ⟨hp, hw, rfl, hu, k3⟩ := HY.out
  obtain ⟨h1, h2, h3⟩ := HX.out
  exact ⟨ks, o, c, rfl, hp.trans h1, hw, hu _ (fun _ h => h), h3.trans k3 (fun _ _ h => h) (fun i hi h => by omega)⟩
end Go.Proofs.YtedgonoeeeiilaaGreatDoor
