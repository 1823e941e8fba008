/- Squ, Sqv, Sqw: joined. -/
import Derived.Test.YtedgonoeeeiilaaGreatDoorUk
import Derived.Maps.Range
import Derived.RangeFuncNested
import Derived.LoopIn
import Derived.Test.YtedgonoeeeiilaaGreatDoorUs
import Derived.WalkKit
import Derived.Test.YtedgonoeeeiilaaGreatDoorRa
import Derived.OwnWalkIn
/- Loops over functions that give the keys of a map of identifiers. -/
namespace Go.Proofs.YtedgonoeeeiilaaGreatDoor
open Go.RowKit

section
variable {κ : Type} {enc : κ → Value}
theorem KIter.left_eq {w : World} {b r : Nat} {l left : List (κ × Value)} (h : KIter enc w (some b) r l left) : w.rangeLeft b r = left.length := by
  obtain ⟨es, clock, since, seen, c0, hb, hs, he, hn, hi, h1, h2, h3, hl, hsub⟩ := h
  have := congrArg List.length hl
  simp only [List.length_map, Array.length_toList] at this
  simp only [World.rangeLeft, hb, hi]
  exact this
/-- An iterator over a map. -/
def isIt : Obj → Bool
  | .mapIter .. => true
  | _ => false
theorem isIt_walk {o : Obj} (h : isIt o = true) : o.isWalk = true := by
  cases o <;> first | rfl | cases h
/-- What the body of such a loop keeps: iterators, and the map. -/
def KpM (b : Nat) (A B : World) : Prop := A.heap.size ≤ B.heap.size ∧ ∀ k o, A.heap[k]? = some o → (isIt o = true ∨ k = b) → B.heap[k]? = some o
theorem KpM.trans {b : Nat} {A B C : World} (h : KpM b A B) (k : KpM b B C) : KpM b A C := ⟨Nat.le_trans h.1 k.1, fun i o hi ho => k.2 i o (h.2 i o hi ho) ho⟩
theorem KpM.keep {b : Nat} {A B : World} {M : Nat → Prop} (h : Keep M A B) (hb : ¬ M b) (hM : ∀ i o, M i → A.heap[i]? = some o → isIt o = false) : KpM b A B :=
  ⟨h.size, fun k o hk ho => h.heap hk fun q => by
    rcases ho with ho | rfl
    · rw [hM k o q hk] at ho; cases ho
    · exact hb q⟩
theorem KpM.record {b : Nat} {w : World} (hb : b < w.heap.size) (W : World) (l : Nat) (o o' : Obj) (hl : w.heap.size ≤ l) (h : W.heap[l]? = some o) (_ : o.isCells = false) (hw : o.isWalk = false) : KpM b W (W.putObj l o') := by
  refine ⟨by simp, fun k q hk hq => ?_⟩
  by_cases e : k = l
  · subst e
    rw [h] at hk; cases hk
    rcases hq with hq | hq
    · rw [isIt_walk hq] at hw; cases hw
    · omega
  · exact (World.putObj_heap_other e).trans hk
theorem KIter.kp {w w' : World} {b r : Nat} {l left : List (κ × Value)} (h : KIter enc w (some b) r l left) (k : KpM b w w') : KIter enc w' (some b) r l left := by
  obtain ⟨es, clock, since, seen, c0, hb, hs, he, hn, hi, rest⟩ := h
  exact ⟨es, clock, since, seen, c0, k.2 _ _ hb (.inr rfl), hs, he, hn, k.2 _ _ hi (.inl rfl), rest⟩
end
end Go.Proofs.YtedgonoeeeiilaaGreatDoor
/- The iterators over the keys of maps of identifiers: what they give. -/
namespace Go.Proofs.YtedgonoeeeiilaaGreatDoor
open Go.RowKit

theorem Keep.grownBy {w w' : World} {r : Nat} (k : Keep (· = r) w w') : w.grownBy w' (some r) :=
  ⟨k.os, k.tape, k.output, k.size, fun i hi h => k.block i hi (fun e => h (by rw [e]))⟩
theorem KIter.walk {κ : Type} {enc : κ → Value} {w : World} {b r : Nat} {l left : List (κ × Value)} (h : KIter enc w (some b) r l left) : ∃ o : Obj, w.heap[r]? = some o ∧ o.isWalk = true := by
  obtain ⟨es, clock, since, seen, c0, hb, hs, he, hn, hi, rest⟩ := h
  exact ⟨_, hi, rfl⟩
theorem perm_step {κ α : Type} {left left' : List (κ × α)} {p : κ × α} {pre : List κ} {l : List (κ × α)} (hp : left.Perm (p :: left')) (h : (pre ++ left.map (·.1)).Perm (l.map (·.1))) : ((pre ++ [p.1]) ++ left'.map (·.1)).Perm (l.map (·.1)) := by
  refine List.Perm.trans ?_ h
  rw [List.append_assoc]
  exact List.Perm.append_left _ ((hp.map (fun q : κ × α => q.1)).symm)

set_option maxRecDepth 100000 in
set_option maxHeartbeats 4000000 in
theorem uidsAll1_c (n : Nat) (hn : 1 ≤ n) (l Bm b : Nat) (lst : List (Uid × Value)) (J Jx : List Uid → World → Prop)
    (hY : ∀ pre x W, x ∈ lst.map (·.1) → J pre W → pre.length < lst.length → YieldAt Fence.wide (n - 1) Tryz.prog l #[encU x] W fun e W' => (e = .returned (.bool true) ∧ J (pre ++ [x]) W' ∧ KpM b W W') ∨ (e = .returned (.bool false) ∧ Jx (pre ++ [x]) W'))
    (W : World) (hJ : AbidesFrom W.heap.size J) (hm : W.cell? ⟨Bm, 0, none⟩ = some (.map (some b))) (hown : KMap encU W b lst) (h0 : J [] W) :
    CallsIn Fence.wide n Tryz.prog 66 #[.func (.yield l) #[] #[], .pointer (some ⟨Bm, 0, none⟩)] W fun e W' => (∃ v, e = .returned v) ∧ ((∃ xs, xs.Perm (lst.map (·.1)) ∧ J xs W') ∨ ∃ pre, Jx pre W') := by
  obtain ⟨ob, hrg, hit⟩ := KMapO.range (P := Tryz.prog) (m := some b) hown Tryz.underlying101
  have HI := Lib.hid (And.intro hit (hJ [] W _ none h0 (World.grownBy_alloc W ob none) (fun r e => by cases e)))
  have HJ := Lib.hid (And.intro hJ hY)
  clear hit h0 hJ hY hown
  refine callsIn_of_wp Tryz.func66 rfl trivial ?_ rfl
  simp only [Tryz.ntmps66, List.size_toArray, List.length_cons, List.length_nil, Nat.reduceAdd, Nat.reduceSub, Array.replicate_succ, Array.replicate_zero, List.push_toArray, List.append_toArray, List.nil_append, List.cons_append]
  gi_wp2
  gi_loopw [3] (fun _ wr => ∃ (left : List (Uid × Value)) (pre : List Uid), KIter encU wr (some b) W.heap.size lst left ∧ (pre ++ left.map (·.1)).Perm (lst.map (·.1)) ∧ J pre wr)
    (fun _ wr => wr.rangeLeft b W.heap.size)
  case atStart => exact ⟨lst, [], HI.out.1, by simp, HI.out.2⟩
  case round =>
    obtain ⟨left, pre, hrel⟩ := hrel
    have HR := Lib.hid hrel
    clear hrel
    rcases HR.out.1.next (P := Tryz.prog) kU.inj 0 with ⟨hl0, hnext⟩ | ⟨p, lf, w', hp, hnext, hentry, hit', hk', hsz'⟩
    · gi_wp2
      go_end0
      exact ⟨⟨_, rfl⟩, .inl ⟨pre, by have := HR.out.2.1; rw [hl0] at this; simpa using this, HR.out.2.2⟩⟩
    · unfold encU at hnext hentry
      have hJ2 : J pre w' := HJ.out.1 pre wr w' (some W.heap.size) HR.out.2.2 hk'.grownBy (fun r e => by cases e; exact ⟨Nat.le_refl _, HR.out.1.walk⟩)
      have hJ3 : J pre (w'.alloc (.cells #[.string p.1.1, .string p.1.2] 96)) := HJ.out.1 _ _ _ none hJ2 (World.grownBy_alloc _ _ none) (fun r e => by cases e)
      have hlen : pre.length < lst.length := by
        have h1 := HR.out.2.1.length_eq
        have h2 := hp.length_eq
        simp only [List.length_append, List.length_map, List.length_cons] at h1 h2
        omega
      obtain ⟨fn, tmps, assign, body, hy, hR⟩ := HJ.out.2 pre p.1 _ (List.mem_map.2 ⟨p, HR.out.1.sub.subset (hp.mem_iff.2 (.head _)), rfl⟩) hJ3 hlen
      have HN := Lib.hid (And.intro hp (And.intro hit' (And.intro hk' hsz')))
      clear hp hit' hk' hsz' hJ2 hJ3 hlen
      unfold encU at hy
      gi_wp2
      refine hR.mono ?_
      obtain ⟨hp, hit', hk', hsz'⟩ := HN.out
      rintro e W3 (⟨rfl, hJ4, hk3⟩ | ⟨rfl, hJx⟩)
      · have HZ := Lib.hid (And.intro ((hit'.keep (Keep.alloc w' _ NoB) (fun _ _ h => h) (fun h => h)).kp hk3) (And.intro (perm_step hp HR.out.2.1) hJ4))
        have hpl := hp.length_eq
        clear hk3 hJ4 hp hit' hk' hsz'
        gi_wp2
        go_roundw
        case rel => exact ⟨lf, pre ++ [p.1], HZ.out⟩
        case measure =>
          rw [HZ.out.1.left_eq, HR.out.1.left_eq]
          simp only [List.length_cons] at hpl
          omega
      · clear hp hit' hk' hsz'
        gi_wp2
        refine bodyPost_ret (results_none rfl _ _ _) rfl ?_
        exact ⟨⟨_, rfl⟩, .inr ⟨_, hJx⟩⟩

set_option maxRecDepth 100000 in
set_option maxHeartbeats 4000000 in
theorem keysAct1_c (n : Nat) (hn : 1 ≤ n) (l Bm b : Nat) (lst : List (Uid × Value)) (J Jx : List Uid → World → Prop)
    (hY : ∀ pre x W, x ∈ lst.map (·.1) → J pre W → pre.length < lst.length → YieldAt Fence.wide (n - 1) Tryz.prog l #[encU x] W fun e W' => (e = .returned (.bool true) ∧ J (pre ++ [x]) W' ∧ KpM b W W') ∨ (e = .returned (.bool false) ∧ Jx (pre ++ [x]) W'))
    (W : World) (hJ : AbidesFrom W.heap.size J) (hm : W.cell? ⟨Bm, 0, none⟩ = some (.map (some b))) (hown : KMap encU W b lst) (h0 : J [] W) :
    CallsIn Fence.wide n Tryz.prog 43 #[.func (.yield l) #[] #[], .pointer (some ⟨Bm, 0, none⟩)] W fun e W' => (∃ v, e = .returned v) ∧ ((∃ xs, xs.Perm (lst.map (·.1)) ∧ J xs W') ∨ ∃ pre, Jx pre W') := by
  obtain ⟨ob, hrg, hit⟩ := KMapO.range (P := Tryz.prog) (m := some b) hown Tryz.underlying82
  have HI := Lib.hid (And.intro hit (hJ [] W _ none h0 (World.grownBy_alloc W ob none) (fun r e => by cases e)))
  have HJ := Lib.hid (And.intro hJ hY)
  clear hit h0 hJ hY hown
  refine callsIn_of_wp Tryz.func43 rfl trivial ?_ rfl
  simp only [Tryz.ntmps43, List.size_toArray, List.length_cons, List.length_nil, Nat.reduceAdd, Nat.reduceSub, Array.replicate_succ, Array.replicate_zero, List.push_toArray, List.append_toArray, List.nil_append, List.cons_append]
  gi_wp2
  gi_loopw [3] (fun _ wr => ∃ (left : List (Uid × Value)) (pre : List Uid), KIter encU wr (some b) W.heap.size lst left ∧ (pre ++ left.map (·.1)).Perm (lst.map (·.1)) ∧ J pre wr)
    (fun _ wr => wr.rangeLeft b W.heap.size)
  case atStart => exact ⟨lst, [], HI.out.1, by simp, HI.out.2⟩
  case round =>
    obtain ⟨left, pre, hrel⟩ := hrel
    have HR := Lib.hid hrel
    clear hrel
    rcases HR.out.1.next (P := Tryz.prog) kU.inj 0 with ⟨hl0, hnext⟩ | ⟨p, lf, w', hp, hnext, hentry, hit', hk', hsz'⟩
    · gi_wp2
      go_end0
      exact ⟨⟨_, rfl⟩, .inl ⟨pre, by have := HR.out.2.1; rw [hl0] at this; simpa using this, HR.out.2.2⟩⟩
    · unfold encU at hnext hentry
      have hJ2 : J pre w' := HJ.out.1 pre wr w' (some W.heap.size) HR.out.2.2 hk'.grownBy (fun r e => by cases e; exact ⟨Nat.le_refl _, HR.out.1.walk⟩)
      have hJ3 : J pre (w'.alloc (.cells #[.string p.1.1, .string p.1.2] 96)) := HJ.out.1 _ _ _ none hJ2 (World.grownBy_alloc _ _ none) (fun r e => by cases e)
      have hlen : pre.length < lst.length := by
        have h1 := HR.out.2.1.length_eq
        have h2 := hp.length_eq
        simp only [List.length_append, List.length_map, List.length_cons] at h1 h2
        omega
      obtain ⟨fn, tmps, assign, body, hy, hR⟩ := HJ.out.2 pre p.1 _ (List.mem_map.2 ⟨p, HR.out.1.sub.subset (hp.mem_iff.2 (.head _)), rfl⟩) hJ3 hlen
      have HN := Lib.hid (And.intro hp (And.intro hit' (And.intro hk' hsz')))
      clear hp hit' hk' hsz' hJ2 hJ3 hlen
      unfold encU at hy
      gi_wp2
      refine hR.mono ?_
      obtain ⟨hp, hit', hk', hsz'⟩ := HN.out
      rintro e W3 (⟨rfl, hJ4, hk3⟩ | ⟨rfl, hJx⟩)
      · have HZ := Lib.hid (And.intro ((hit'.keep (Keep.alloc w' _ NoB) (fun _ _ h => h) (fun h => h)).kp hk3) (And.intro (perm_step hp HR.out.2.1) hJ4))
        have hpl := hp.length_eq
        clear hk3 hJ4 hp hit' hk' hsz'
        gi_wp2
        go_roundw
        case rel => exact ⟨lf, pre ++ [p.1], HZ.out⟩
        case measure =>
          rw [HZ.out.1.left_eq, HR.out.1.left_eq]
          simp only [List.length_cons] at hpl
          omega
      · clear hp hit' hk' hsz'
        gi_wp2
        refine bodyPost_ret (results_none rfl _ _ _) rfl ?_
        exact ⟨⟨_, rfl⟩, .inr ⟨_, hJx⟩⟩
end Go.Proofs.YtedgonoeeeiilaaGreatDoor
/- slices.AppendSeq over an iterator that gives identifiers. -/
namespace Go.Proofs.YtedgonoeeeiilaaGreatDoor
open Go.RowKit

theorem uidsSeq (n : Nat) (hn : 1 ≤ n) (Bm b : Nat) (lst : List (Uid × Value)) (w : World) (hm : w.cell? ⟨Bm, 0, none⟩ = some (.map (some b))) (hown : KMap encU w b lst) :
    SeqStopsK Fence.wide n Tryz.prog 66 #[.pointer (some ⟨Bm, 0, none⟩)] (fun u => #[encU u]) (KpM b) (fun xs => xs.Perm (lst.map (·.1))) (fun _ => True) lst.length w := fun l J Jx W hW hJ _ hY h0 => by
  have hk : Keep NoB w W := Keep.below hW (fun i hi h => by omega)
  exact (uidsAll1_c n hn l Bm b lst J Jx (fun pre x W _ => hY pre x W) W hJ (hk.cell hm (NoB.not _)) (hown.keep hk (NoB.not _)) h0).mono fun e W' ⟨h1, h2⟩ => ⟨h1, h2.imp id fun ⟨pre, h⟩ => ⟨pre, trivial, h⟩⟩
theorem actsSeq (n : Nat) (hn : 1 ≤ n) (Bm b : Nat) (lst : List (Uid × Value)) (w : World) (hm : w.cell? ⟨Bm, 0, none⟩ = some (.map (some b))) (hown : KMap encU w b lst) :
    SeqStopsK Fence.wide n Tryz.prog 43 #[.pointer (some ⟨Bm, 0, none⟩)] (fun u => #[encU u]) (KpM b) (fun xs => xs.Perm (lst.map (·.1))) (fun _ => True) lst.length w := fun l J Jx W hW hJ _ hY h0 => by
  have hk : Keep NoB w W := Keep.below hW (fun i hi h => by omega)
  exact (keysAct1_c n hn l Bm b lst J Jx (fun pre x W _ => hY pre x W) W hJ (hk.cell hm (NoB.not _)) (hown.keep hk (NoB.not _)) h0).mono fun e W' ⟨h1, h2⟩ => ⟨h1, h2.imp id fun ⟨pre, h⟩ => ⟨pre, trivial, h⟩⟩

/-- The same, where the rounds are told that what comes is one of the identifiers. -/
theorem uidsSeqM (n : Nat) (hn : 1 ≤ n) (Bm b : Nat) (lst : List (Uid × Value)) (w : World) (hm : w.cell? ⟨Bm, 0, none⟩ = some (.map (some b))) (hown : KMap encU w b lst) :
    SeqStopsK Fence.wide n Tryz.prog 66 #[.pointer (some ⟨Bm, 0, none⟩)] (fun u : {u : Uid // u ∈ lst.map (·.1)} => #[encU u.1]) (KpM b) (fun xs => (xs.map (·.1)).Perm (lst.map (·.1))) (fun _ => True) lst.length w := fun l J Jx W hW hJ _ hY h0 => by
  have hk : Keep NoB w W := Keep.below hW (fun i hi h => by omega)
  refine (uidsAll1_c n hn l Bm b lst (fun pre W => ∃ pre', pre'.map (·.1) = pre ∧ J pre' W) (fun pre W => ∃ pre', pre'.map (·.1) = pre ∧ Jx pre' W) ?_ W ?_ (hk.cell hm (NoB.not _)) (hown.keep hk (NoB.not _)) ⟨[], rfl, h0⟩).mono ?_
  · rintro pre x W1 hx ⟨pre', rfl, hj⟩ hl
    obtain ⟨fn, tmps, assign, body, hy, hR⟩ := hY pre' ⟨x, hx⟩ W1 hj (by simpa using hl)
    refine ⟨fn, tmps, assign, body, hy, hR.mono ?_⟩
    rintro e W' (⟨h1, h2, h3⟩ | ⟨h1, h2⟩)
    · exact .inl ⟨h1, ⟨pre' ++ [⟨x, hx⟩], by simp, h2⟩, h3⟩
    · exact .inr ⟨h1, pre' ++ [⟨x, hx⟩], by simp, h2⟩
  · exact fun s A B row ⟨p, e, h⟩ hg hr => ⟨p, e, hJ p A B row h hg hr⟩
  · rintro e W' ⟨h1, h2⟩
    refine ⟨h1, ?_⟩
    rcases h2 with ⟨xs, hp, pre', rfl, h⟩ | ⟨pre, pre', _, h⟩
    · exact .inl ⟨pre', hp, h⟩
    · exact .inr ⟨pre', trivial, h⟩

theorem ownsRow_weaken {w : World} {base base' : Nat} {E : TypeId} {size n : Nat} {v : Value} {xs : List Value} (h : w.ownsRow base E size v n xs) (hb : base' ≤ base) : w.ownsRow base' E size v n xs := by
  obtain ⟨h1, h2⟩ := h
  refine ⟨h1, ?_⟩
  rcases h2 with h2 | ⟨g, cap, cur, hv, hg, r⟩
  · exact .inl h2
  · exact .inr ⟨g, cap, cur, hv, Nat.le_trans hb hg, r⟩
theorem ownsRow_cells {w : World} {base : Nat} {E : TypeId} {size n : Nat} {v : Value} {xs : List Value} (h : w.ownsRow base E size v n xs) {r : Nat} {o : Obj} (ho : w.heap[r]? = some o) (hc : o.isCells = false) : v.ownBlock = none ∨ v.ownBlock ≠ some r := by
  rcases h.2 with ⟨rfl, _⟩ | ⟨g, cap, cur, rfl, _, hgb, _⟩
  · exact .inl rfl
  · refine .inr fun e => ?_
    have : g = r := by simpa [Value.ownBlock] using e
    subst this
    rw [hgb] at ho; cases ho; cases hc
theorem KpM.of {b : Nat} {A B : World} (h : KeepsOthers A B) (hb : ∀ o, A.heap[b]? = some o → B.heap[b]? = some o) : KpM b A B :=
  ⟨h.size, fun k o hk ho => by
    rcases ho with ho | rfl
    · exact h.same k o hk (Obj.not_cells_of_walk (isIt_walk ho))
    · exact hb o hk⟩
theorem ownsRow_shape' {w : World} {base : Nat} {e : TypeId} {size : Nat} {v : Value} {n : Nat} {xs : List Value} (h : w.ownsRow base e size v n xs) : ∃ o c, v = .slice o n c := by
  rcases h.2 with ⟨rfl, h0⟩ | ⟨g, cap, cur, rfl, _⟩
  · exact ⟨none, 0, by rw [h0]⟩
  · exact ⟨_, _, rfl⟩
set_option maxRecDepth 100000 in
set_option maxHeartbeats 4000000 in
theorem appendSeqU_c (n : Nat) (hn : 2 ≤ n) (w : World) (gf : Nat) (lb : Array Value) (b : Nat) (keys : List Uid) (N : Nat) (hb : b < w.heap.size) (eg : ∀ args w, (callFunc gf args).run Tryz.prog w = .ok (.enter gf args) w)
    (hseq : SeqStopsK Fence.wide (n - 1) Tryz.prog gf lb (fun u => #[encU u]) (KpM b) (fun xs => xs.Perm keys) (fun _ => True) N w) (hN : N ≤ 1000000) :
    CallsIn Fence.wide n Tryz.prog 64 #[.slice none 0 0, .func (.func gf) #[] lb] w fun e w' => ∃ v xs, e = .returned v ∧ xs.Perm keys ∧ w'.ownsRow w.heap.size 96 2 v xs.length (uidCells xs) ∧ Keep NoB w w' := by
  refine callsIn_of_wp_marks Tryz.func64 rfl trivial ?_ rfl
  simp only [Tryz.ntmps64, List.size_toArray, List.length_cons, List.length_nil, Nat.reduceAdd, Nat.reduceSub, Array.replicate_succ, Array.replicate_zero, List.push_toArray, List.append_toArray, List.nil_append, List.cons_append]
  gi_wp2
  obtain ⟨W0, hW0⟩ : ∃ W0, w.alloc (.cells #[.slice none 0 0] 89) = W0 := ⟨_, rfl⟩
  have k0 : Keep NoB w W0 := hW0 ▸ Keep.alloc _ _ _
  have hb0 : W0.heap[w.heap.size]? = some (.cells #[.slice none 0 0] 89 (0, 0)) := by rw [← hW0]; exact (MapKept.heap_alloc w _).1
  have hs0 : W0.heap.size = w.heap.size + 1 := by rw [← hW0]; simp
  have hB0 : Below w.heap.size w W0 := k0.toBelow (Nat.le_refl _) (fun _ _ h => h)
  rw [hW0]
  clear hW0
  refine wpIn_rangeFunc_ownH (F := Fence.wide) (n := n) (encs := fun u : Uid => #[encU u]) (S := fun xs => xs.Perm keys) (Sp := fun _ => True) rfl (by omega) (gf := gf) (lb := lb) rfl trivial eg hseq KpM.trans (KpM.record (by omega)) hB0 (fun _ => rfl)
    (fun pre W => ∃ v, W.heap[w.heap.size]? = some (.cells #[v] 89 (0, 0)) ∧ W.ownsRow (w.heap.size + 1) 96 2 v pre.length (uidCells pre) ∧ Keep NoB w W ∧ w.heap.size + 1 ≤ W.heap.size)
    (fun _ _ _ => False) ?_ (fun c s W W' row h _ _ => h) ⟨_, hb0, ⟨rfl, .inl ⟨rfl, rfl⟩⟩, k0, by omega⟩
    (fun x a' W => ∃ blk, a' = { tmps := #[.slice none 0 0, .func (.func gf) #[] lb, .pointer (some ⟨w.heap.size, 0, none⟩), undef, .slice none 0 0, .pointer (some ⟨blk, 0, none⟩), .func (.func gf) #[] lb, encU x, undef, undef, undef, undef, undef], defers := [] } ∧ w.heap.size + 1 ≤ blk ∧ W.heap[blk]? = some (.cells #[.string x.1, .string x.2] 96 (0, 0)))
    ?_ ?_ ?_ ?_ ?_
  · rintro s W W' row ⟨v, h1, h2, h3, h4⟩ hg hr
    refine ⟨v, (hg.block _ (Array.getElem?_eq_some_iff.1 h1).1 (fun e => by have := (hr _ e.symm).1; omega)).trans h1, h2.kept hg ?_, h3.trans (Keep.grown hg (M := fun i => row = some i) (fun i hi _ => hi)) (fun _ _ h => h) (fun i hi e => by have := (hr i e).1; omega), Nat.le_trans h4 hg.size⟩
    rcases h2.2 with ⟨rfl, _⟩ | ⟨g, cap, cur, rfl, _, hgb, _⟩
    · exact .inl rfl
    · refine .inr fun e => ?_
      obtain ⟨_, o, ho, hc⟩ := hr g (by rw [← e]; rfl)
      rw [hgb] at ho; cases ho; cases hc
  · rintro x a' s W W' row ⟨blk, e, h1, h2⟩ hg hr
    refine ⟨blk, e, h1, (hg.block _ (Array.getElem?_eq_some_iff.1 h2).1 (fun e => ?_)).trans h2⟩
    obtain ⟨_, o, ho, hc⟩ := hr blk e.symm
    rw [h2] at ho; cases ho; cases hc
  · rintro l pre x W K ⟨v, h1, h2, h3, h4⟩ hK
    have HK := Lib.hid (And.intro h1 (And.intro h2 (And.intro h3 (And.intro h4 hK))))
    clear h1 h2 h3 h4 hK
    rw [show ((#[7] : Array Tmp).zip #[encU x]).foldl (fun t (q : Tmp × Value) => t.setIfInBounds q.1 q.2) #[.slice none 0 0, .func (.func gf) #[] lb, .pointer (some ⟨w.heap.size, 0, none⟩), undef, .slice none 0 0, undef, .func (.func gf) #[] lb, undef, undef, undef, undef, undef, undef] = #[.slice none 0 0, .func (.func gf) #[] lb, .pointer (some ⟨w.heap.size, 0, none⟩), undef, .slice none 0 0, undef, .func (.func gf) #[] lb, .agg #[.string x.1, .string x.2], undef, undef, undef, undef, undef] by simp [encU]]
    gi_wp2_with (rw [Oper.semAt_eq _ _ _ (fun c h => by cases h)]; go_simp; try go_bits)
    obtain ⟨h1, h2, h3, h4, hK⟩ := HK.out
    have ka : Keep NoB W (W.alloc (.cells #[.string x.1, .string x.2] 96)) := Keep.alloc _ _ _
    refine hK _ _ ((KeepsOthers.alloc W _).from _) (KpM.keep ka (NoB.not _) (fun _ _ h _ => h.elim)) ⟨v, ka.heap h1 (NoB.not _), World.ownsRow.keep h2 ka (fun _ _ => NoB.not _), h3.then ka, Nat.le_trans h4 ka.size⟩ ⟨W.heap.size, rfl, h4, (MapKept.heap_alloc W _).1⟩
  · rintro l pre x a' W hl hL ⟨v, h1, h2, h3, h4⟩ ⟨blk, rfl, hblk, hbc⟩ hlen
    obtain ⟨iU, hiU, hzU, hsU, hbU⟩ := info_parts infoUID
    have c0 : W.cell? ⟨w.heap.size, 0, none⟩ = some v := by rw [cell_cells h1]; rfl
    have d0 : W.cell? ⟨blk, 0, none⟩ = some (.string x.1) := by rw [cell_cells hbc]; rfl
    have d1 : W.cell? ⟨blk, 1, none⟩ = some (.string x.2) := by rw [cell_cells hbc]; rfl
    have HB := Lib.hid (And.intro h1 (And.intro h2 (And.intro h3 (And.intro h4 (And.intro hl (And.intro hL (And.intro hbc hlen)))))))
    have HU := Lib.hid (And.intro hiU (And.intro hzU (And.intro hsU hbU)))
    have HS := Lib.hid (And.intro hs0 (And.intro hN hb))
    clear h1 h2 h3 h4 hl hL hbc hiU hzU hsU hbU hs0 hB0 hb0 k0 hseq eg hlen hN hb
    unfold encU
    obtain ⟨so, sc, rfl⟩ := ownsRow_shape' HB.out.2.1
    have f0 : W.frozen? ⟨w.heap.size, 0, none⟩ = false := frozen_cells HB.out.1 0
    have hownA := HB.out.2.1.alloc (.cells #[.string x.1, .string x.2] 96)
    have hlenN := HB.out.2.2.2.2.2.2.2
    have hNL := HS.out.2.1
    have hszW := HB.out.2.2.2.1
    have HO := Lib.hid hownA
    clear hownA
    gi_wp2_with (first
      | (gi_at_builtin; refine wpListIn_append_own _ rfl _ _ 89 rfl (w.heap.size + 1) 96 iU (.agg #[.string ⟨#[]⟩, .string ⟨#[]⟩]) 2 32 Tryz.underlying89 HU.out.1 HU.out.2.1 HU.out.2.2.1 HU.out.2.2.2 rfl (by decide) _ _ _ rfl HO.out ⟨W.heap.size, 0, none⟩ 1 1 [.string x.1, .string x.2] rfl rfl (fun q u hq => by
           rcases q with _ | _ | q
           · cases hq; exact cell_cells (MapKept.heap_alloc W _).1 0
           · cases hq; exact cell_cells (MapKept.heap_alloc W _).1 1
           · cases hq) (by simp [Value.oneCell']) (by unfold maxLen; omega) (by omega) (by simp; omega) ?_
         intro v' w3 hown3 hg3 hnil
         have hkg : Keep (fun i => w.heap.size + 1 ≤ i) (W.alloc (.cells #[.string x.1, .string x.2] 96)) w3 := Keep.grown hg3 (fun i hi _ => (World.ownsRow.lt HO.out i hi).1)
         have hb3 : w3.heap[w.heap.size]? = some (.cells #[.slice so pre.length sc] 89 (0, 0)) := hkg.heap ((Keep.alloc W _ NoB).heap HB.out.1 (NoB.not _)) (by omega)
         have e3 : w3.cell? ⟨w.heap.size, 0, none⟩ = some (.slice so pre.length sc) := by rw [cell_cells hb3]; rfl
         have f3 : w3.frozen? ⟨w.heap.size, 0, none⟩ = false := frozen_cells hb3 0
         obtain ⟨g, cap, rfl⟩ := owns_some hown3
         have H3 := Lib.hid (And.intro hown3 (And.intro hg3 (And.intro hkg hb3)))
         clear hown3 hg3 hnil hkg hb3
         go_frame)
      | (rw [Oper.semAt_eq _ _ _ (fun c h => by cases h)]; go_simp; try go_bits))
    obtain ⟨hown3, hg3, hkg, hb3⟩ := H3.out
    obtain ⟨h1, h2, h3, h4, hl, hL, hbc, hlen⟩ := HB.out
    obtain ⟨hs, hNb, hb⟩ := HS.out
    replace hg3 : (W.alloc (.cells #[.string x.1, .string x.2] 96)).grownBy w3 (Value.ownBlock (.slice so pre.length sc)) := hg3
    have ks := Keep.setCell (M := (· = w.heap.size)) w3 ⟨w.heap.size, 0, none⟩ (.slice (some ⟨g, 0, none⟩) (pre.length + 1) cap) (fun _ => rfl)
    have kW : Keep (fun i => w.heap.size ≤ i) W (w3.setCell ⟨w.heap.size, 0, none⟩ (.slice (some ⟨g, 0, none⟩) (pre.length + 1) cap)) := ((Keep.alloc W _ NoB).first hkg).trans ks (fun i _ h => by omega) (fun i _ h => by omega)
    have kO : KeepsOthers W (w3.setCell ⟨w.heap.size, 0, none⟩ (.slice (some ⟨g, 0, none⟩) (pre.length + 1) cap)) := by
      refine ((KeepsOthers.alloc W _).trans (KeepsOthers.of_grownBy hg3 fun j o hj ho => ?_)).trans (KeepsOthers.setCell _ _ _)
      rcases HO.out.2 with ⟨e, _⟩ | ⟨g', cap', cur', e, _, hg', _⟩
      · rw [e] at hj; cases hj
      · rw [e] at hj
        have : g' = j := by simpa [Value.ownBlock] using hj
        subst this
        rw [hg'] at ho; cases ho; rfl
    refine ⟨kO.from _, KpM.of kO (fun o ho => kW.heap ho (by omega)), _, setCell_cells hb3 0 _, ?_, h3.trans kW (fun _ _ h => h) (fun i hi h => by omega), Nat.le_trans h4 kW.size⟩
    rw [List.length_append, uidCells_snoc]
    exact World.ownsRow.keep (M := (· = w.heap.size)) hown3 ks (fun i hi h => by omega)
  · rintro D xs W hD hS ⟨v, h1, h2, h3, h4⟩ hDef
    have c0 : W.cell? ⟨w.heap.size, 0, none⟩ = some v := by rw [cell_cells h1]; rfl
    have HC := Lib.hid (And.intro h1 (And.intro h2 (And.intro h3 (And.intro h4 hDef))))
    clear h1 h2 h3 h4 hDef
    gi_wp2
    obtain ⟨h1, h2, h3, h4, hDef⟩ := HC.out
    refine ⟨by simp, .inl ⟨_, _, rfl, run_takeDeferred hDef, ?_⟩⟩
    have kp : ∀ o, Keep (· = D) W (W.putObj D o) := fun o => Keep.grown (grownBy_putObj' _ _ _) (fun i hi _ => by cases hi; rfl)
    refine ⟨_, results_tmp rfl _ _ _, v, xs, rfl, hS, ?_, h3.trans (kp _) (fun _ _ h => h) (fun i hi e => by omega)⟩
    exact ownsRow_weaken (h2.kept (grownBy_putObj' W D _) (ownsRow_cells h2 hDef rfl)) (by omega)
  · rintro D c pre W _ _ h
    exact h.elim
end Go.Proofs.YtedgonoeeeiilaaGreatDoor
