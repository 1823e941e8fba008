/- The walk of the function that turns given namespaces into a schema of the syntax tree. -/
import Derived.Test.YtedgonoeeeiilaaGreatDoorIq
import Derived.Test.YtedgonoeeeiilaaGreatDoorWl
import Derived.StillTailTactics
import Derived.BigRegion
namespace Go.Proofs.YtedgonoeeeiilaaGreatDoor
open Go.RowKit

/-- A given namespace. -/
structure ISp where
  name : Str
  es : List (Str × IEnt)
  ns : List (Str × List Str)
  cs : List (Str × ATy)
  ac : List (Str × AAct)
/-- The data outside of namespaces. -/
def bareSp (l : List ISp) : SpD := l.foldl (fun B S => if S.name = ⟨#[]⟩ then spOf S.es S.ns S.cs S.ac else B) (spOf [] [] [] [])
def namedSp (l : List ISp) : List Str := (l.filter fun S => S.name ≠ ⟨#[]⟩).map (·.name)
theorem bareSp_snoc (l : List ISp) (S : ISp) : bareSp (l ++ [S]) = if S.name = ⟨#[]⟩ then spOf S.es S.ns S.cs S.ac else bareSp l := by
  unfold bareSp; rw [List.foldl_append]; rfl
theorem namedSp_snoc (l : List ISp) (S : ISp) : namedSp (l ++ [S]) = if S.name = ⟨#[]⟩ then namedSp l else namedSp l ++ [S.name] := by
  unfold namedSp
  rw [List.filter_append]
  by_cases h : S.name = ⟨#[]⟩ <;> simp [h]

/-- Given namespaces in a row. -/
structure IAll (w : World) (M : Nat → Prop) (l : List ISp) (D : Str → SpD) (so : Option Addr) : Prop where
  L : l.length ≤ 1000000
  nod : (namedSp l).Nodup
  D : ∀ S ∈ l, S.name ≠ ⟨#[]⟩ → D S.name = spOf S.es S.ns S.cs S.ac
  sz : ∀ S ∈ l, S.name.size ≤ 1000000
  at_ : l = [] ∨ ∃ b off, so = some ⟨b, off, none⟩ ∧ ∀ i S, l[i]? = some S → ∃ s1 s2 s3 s4 : Sl, CellsAt w b (off + i * 5) [.string S.name, slV s1, slV s2, slV s3, slV s4] ∧ ISpIs w M S.es S.ns S.cs S.ac s1 s2 s3 s4

/-- The loop: the first j are in the schema. -/
structure OL (w wr : World) (l : List ISp) (D : Str → SpD) (j : Nat) (me mn ma mc : Option Nat) (le ln la lc ls : List (Str × Value)) : Prop where
  keep : Keep NoB w wr
  cells : wr.heap[w.heap.size + 1]? = some (.cells #[.map me, .map mn, .map ma, .map mc, .map (some w.heap.size)] 135 (0, 0))
  bare : SpIs wr (fun i => i < w.heap.size + 2) (bareSp (l.take j)) me mn ma mc le ln la lc
  map : KMap Value.string wr w.heap.size ls
  keys : ls.map (·.1) = namedSp (l.take j)
  spaces : ∀ p ∈ ls, p.1.size ≤ 1000000 ∧ NsIs wr (fun i => i < w.heap.size + 2) (D p.1) p.2

def OfOut (w : World) (l : List ISp) (D : Str → SpD) (e : Ending) (w' : World) : Prop :=
  ∃ b b0 me mn ma mc ms le ln la lc ls, e = .returned (.tuple #[.pointer (some ⟨b, 0, none⟩), .bool true]) ∧ w'.cell? ⟨b, 1, none⟩ = some (.pointer (some ⟨b0, 0, none⟩)) ∧
    SchIs w' NoB b0 me mn ma mc ms le ln la lc ls (bareSp l) D ∧ ls.map (·.1) = namedSp l ∧ Keep NoB w w'

set_option maxRecDepth 100000 in
set_option maxHeartbeats 8000000 in
theorem schemaOf_c (w0 : World) (M : Nat → Prop) (l : List ISp) (D : Str → SpD) (so : Option Addr) (c : Nat) (h : IAll w0 M l D so) (w : World) (k0 : Keep NoB w0 w) :
    Calls Tryz.prog 11 #[.slice so l.length c] w (OfOut w l D) := by
  obtain ⟨n, hn⟩ : ∃ n, n = l.length := ⟨_, rfl⟩
  rw [← hn]
  have hnL : n ≤ 1000000 := by rw [hn]; exact h.L
  have hmm := @run_makeMap Tryz.prog
  have HA := Lib.hid (And.intro hn h)
  have HK0 := Lib.hid k0
  clear h hn k0
  go_enter Tryz.func11, Tryz.ntmps11
  go_wp2_with fail
  clear hmm
  go_loopg [14] n (fun k i wr => ∃ j : Nat, j + k = n ∧ i = .int .i64 j ∧ ∃ me mn ma mc le ln la lc ls, OL w wr l D j me mn ma mc le ln la lc ls)
  case atStart =>
    refine ⟨0, by omega, rfl, none, none, none, none, [], [], [], [], [], (Keep.alloc _ _ NoB).then (Keep.alloc _ _ NoB), ?_, ?_, (KMap.made w).keep (Keep.alloc _ _ NoB) (NoB.not _), rfl, fun _ h => by simp at h⟩
    · have h := (MapKept.heap_alloc (w.alloc (.map #[] 0)) (.cells #[.map none, .map none, .map none, .map none, .map (some w.heap.size)] 135)).1
      rw [World.size_alloc] at h; exact h
    · exact ⟨rfl, rfl, rfl, rfl, (fun _ h => by cases h), (fun _ h => by cases h), (fun _ h => by cases h), (fun _ h => by cases h), rfl, rfl, rfl, rfl, (fun _ h => by cases h), (fun _ h => by cases h), (fun _ h => by cases h), (fun _ h => by cases h)⟩
  case round =>
    obtain ⟨j, hj, rfl, me, mn, ma, mc, le, ln, la, lc, ls, hrow⟩ := hrel
    have HR := Lib.hid hrow
    clear hrow
    by_cases hlt : j < n
    · obtain ⟨hn, hI⟩ := HA.out
      rcases hI.at_ with rfl | ⟨b, off, rfl, hc⟩
      · simp at hn; omega
      · obtain ⟨S, hl⟩ : ∃ x, l[j]? = some x := ⟨_, List.getElem?_eq_getElem (by omega)⟩
        obtain ⟨s1, s2, s3, s4, hcj, hIj⟩ := hc j _ hl
        obtain ⟨nm, es, ns, cs, ac⟩ := S
        dsimp only at hcj hIj
        have hcw := hcj.keep (HK0.out.then HR.out.keep) (NoB.not _)
        have f0 := hcw 0 _ rfl
        rw [Nat.add_zero] at f0
        have f1 := hcw 1 _ rfl
        have f2 := hcw 2 _ rfl
        have f3 := hcw 3 _ rfl
        have f4 := hcw 4 _ rfl
        have k1 := Keep.alloc wr (.cells #[.string nm, .slice s1.1 s1.2.1 s1.2.2, .slice s2.1 s2.2.1 s2.2.2, .slice s3.1 s3.2.1 s3.2.2, .slice s4.1 s4.2.1 s4.2.2] 44) NoB
        have hb1 := (MapKept.heap_alloc wr (.cells #[.string nm, .slice s1.1 s1.2.1 s1.2.2, .slice s2.1 s2.2.1 s2.2.2, .slice s3.1 s3.2.1 s3.2.2, .slice s4.1 s4.2.1 s4.2.2] 44)).1
        have HC := Lib.hid (schemaSpace_c w0 M nm es ns cs ac s1 s2 s3 s4 hIj _ ((HK0.out.then HR.out.keep).then k1))
        have HP := Lib.hid (And.intro hl (And.intro k1 hb1))
        clear hn hI hc hl hcj hIj hcw k1 hb1
        go_wp2_with fail
        refine HC.out.mono ?_
        rintro en w3 ⟨me', mn', ma', mc', le', ln', la', lc', rfl, hsp, k3⟩
        clear f0 f1 f2 f3 f4
        obtain ⟨hl, k1, hb1⟩ := HP.out
        obtain ⟨O4, hO4⟩ : ∃ O4 : Obj, O4 = .cells #[.map none, .map me', .map mn', .map ma', .map mc'] 138 := ⟨_, rfl⟩
        have k4 : Keep NoB w3 (w3.alloc O4) := Keep.alloc _ _ _
        have hb14 := (k3.then k4).heap hb1 (NoB.not _)
        have g0 : (w3.alloc O4).cell? ⟨wr.heap.size, 0, none⟩ = some (.string nm) := by rw [cell_cells hb14]; rfl
        have hb4 : (w3.alloc O4).heap[w3.heap.size]? = some O4 := (MapKept.heap_alloc w3 O4).1
        have hcs := ((k1.then k3).then k4).heap HR.out.cells (NoB.not _)
        subst hO4
        have HQ := Lib.hid (And.intro hsp (And.intro k3 (And.intro k4 (And.intro hb14 (And.intro hb4 hcs)))))
        clear hl k1 hb1 k3 k4 hb14 hb4 hsp hcs
        by_cases hnm : nm = ⟨#[]⟩
        · subst hnm
          go_wp2_with fail
          obtain ⟨w5, hw5⟩ : ∃ w5, w5 = w3.alloc (.cells #[.map none, .map me', .map mn', .map ma', .map mc'] 138) := ⟨_, rfl⟩
          obtain ⟨hsp, k3, k4, hb14, hb5, hcs5⟩ := HQ.out
          rw [← hw5] at hb5 hcs5 g0 ⊢
          have q1 : w5.cell? ⟨w3.heap.size, 1, none⟩ = some (.map me') := by rw [cell_cells hb5]; rfl
          have q2 : w5.cell? ⟨w3.heap.size, 2, none⟩ = some (.map mn') := by rw [cell_cells hb5]; rfl
          have q3 : w5.cell? ⟨w3.heap.size, 3, none⟩ = some (.map ma') := by rw [cell_cells hb5]; rfl
          have q4 : w5.cell? ⟨w3.heap.size, 4, none⟩ = some (.map mc') := by rw [cell_cells hb5]; rfl
          have c0 : w5.cell? ⟨w.heap.size + 1, 0, none⟩ = some (.map me) := by rw [cell_cells hcs5]; rfl
          have c1 : w5.cell? ⟨w.heap.size + 1, 1, none⟩ = some (.map mn) := by rw [cell_cells hcs5]; rfl
          have c2 : w5.cell? ⟨w.heap.size + 1, 2, none⟩ = some (.map ma) := by rw [cell_cells hcs5]; rfl
          have c3 : w5.cell? ⟨w.heap.size + 1, 3, none⟩ = some (.map mc) := by rw [cell_cells hcs5]; rfl
          have z0 := frozen_cells hcs5 0
          have z1 := frozen_cells hcs5 1
          have z2 := frozen_cells hcs5 2
          have z3 := frozen_cells hcs5 3
          have HE := Lib.hid (And.intro hw5 hcs5)
          clear hsp k3 k4 hb14 hb5 hcs5 hw5 g0
          go_region
          go_wp2_with fail
          go_roundg (gk - 1)
          case measure => omega
          case rel =>
            obtain ⟨hsp, k3, k4, hb14, hb4, hcs⟩ := HQ.out
            obtain ⟨hl, k1, hb1⟩ := HP.out
            obtain ⟨hw5, hcs5⟩ := HE.out
            obtain ⟨hn, hI⟩ := HA.out
            have hjl : j < l.length := by omega
            have htk : l.take (j + 1) = l.take j ++ [⟨⟨#[]⟩, es, ns, cs, ac⟩] := by
              rw [List.take_succ_eq_append_getElem hjl]
              have := List.getElem?_eq_getElem hjl
              rw [hl] at this
              rw [← Option.some.inj this]
            have hbs : bareSp (l.take (j + 1)) = spOf es ns cs ac := by rw [htk, bareSp_snoc, if_pos rfl]
            have hns : namedSp (l.take (j + 1)) = namedSp (l.take j) := by rw [htk, namedSp_snoc, if_pos rfl]
            have hz := setCell_cells (setCell_cells (setCell_cells (setCell_cells hcs5 0 (.map me')) 1 (.map mn')) 2 (.map ma')) 3 (.map mc')
            have kst : ∀ (u : World) (i : Nat) (v : Value), Keep (· = w.heap.size + 1) u (u.setCell ⟨w.heap.size + 1, i, none⟩ v) := fun u i v => Keep.setCell _ _ _ (fun _ => rfl)
            have kj : ∀ {u v x : World}, Keep (· = w.heap.size + 1) u v → Keep (· = w.heap.size + 1) v x → Keep (· = w.heap.size + 1) u x := fun h1 h2 => h1.trans h2 (fun _ _ h => h) (fun _ _ h => h)
            have ks := kj (kj (kj (kj (kst w5 0 (.map me')) (kst _ 1 (.map mn'))) (kst _ 2 (.map ma'))) (kst _ 3 (.map mc'))) (Keep.drew _ _)
            have hz' : ((((w5.setCell ⟨w.heap.size + 1, 0, none⟩ (.map me')).setCell ⟨w.heap.size + 1, 1, none⟩ (.map mn')).setCell ⟨w.heap.size + 1, 2, none⟩ (.map ma')).setCell ⟨w.heap.size + 1, 3, none⟩ (.map mc')).drew.heap[w.heap.size + 1]? = some (.cells #[.map me', .map mn', .map ma', .map mc', .map (some w.heap.size)] 135 (0, 0)) := hz
            clear hz
            generalize ((((w5.setCell ⟨w.heap.size + 1, 0, none⟩ (.map me')).setCell ⟨w.heap.size + 1, 1, none⟩ (.map mn')).setCell ⟨w.heap.size + 1, 2, none⟩ (.map ma')).setCell ⟨w.heap.size + 1, 3, none⟩ (.map mc')).drew = wz at hz' ks ⊢
            have k15 : Keep NoB wr w5 := hw5 ▸ ((k1.then k3).then k4)
            have k45 : Keep NoB w3 w5 := hw5 ▸ k4
            have hwr : w.heap.size + 2 ≤ wr.heap.size := by have := (Array.getElem?_eq_some_iff.1 HR.out.cells).1; omega
            have hrs := HR.out.keep.size
            refine ⟨j + 1, by omega, by go_num, me', mn', ma', mc', le', ln', la', lc', ls, ⟨(HR.out.keep.then k15).trans ks (fun _ _ h => h) (fun i hi h => by omega), hz', ?_, (HR.out.map.keep k15 (NoB.not _)).keep ks (by omega), by rw [HR.out.keys, hns], fun p h => ?_⟩⟩
            · rw [hbs]
              exact (hsp.keep (M' := fun i => i < w.heap.size + 2) k45 (fun _ _ h => h.elim) (fun i hi (h : i < w.heap.size + 2) => by show i < _; rw [World.size_alloc]; omega)).keep ks (fun i hi h => by show i < _; omega) (fun _ _ h => h)
            · exact ⟨(HR.out.spaces p h).1, ((HR.out.spaces p h).2.keep (M' := fun i => i < w.heap.size + 2) k15 (fun _ _ h => h.elim) (fun _ _ h => h)).keep ks (fun i hi h => by show i < _; omega) (fun _ _ h => h)⟩
        · have HNM := Lib.hid hnm
          have h00 := ne_empty (show ¬ nm = ByteArray.empty from hnm)
          clear hnm
          go_wp2_with fail
          refine still_tail 7 (by kernel_rfl) (by kernel_rfl) (fun w5 hw5 => ?_)
          obtain ⟨hsp, k3, k4, hb14, hb4, hcs⟩ := HQ.out
          obtain ⟨hl, k1, hb1⟩ := HP.out
          have kd : Keep NoB (w3.alloc (.cells #[.map none, .map me', .map mn', .map ma', .map mc'] 138)) w5 := hw5 ▸ Keep.drew _ _
          have g0 : w5.cell? ⟨wr.heap.size, 0, none⟩ = some (.string nm) := by rw [cell_cells (kd.heap hb14 (NoB.not _))]; rfl
          have hb5 := kd.heap hb4 (NoB.not _)
          have q0 : w5.cell? ⟨w3.heap.size, 0, none⟩ = some (.map none) := by rw [cell_cells hb5]; rfl
          have q1 : w5.cell? ⟨w3.heap.size, 1, none⟩ = some (.map me') := by rw [cell_cells hb5]; rfl
          have q2 : w5.cell? ⟨w3.heap.size, 2, none⟩ = some (.map mn') := by rw [cell_cells hb5]; rfl
          have q3 : w5.cell? ⟨w3.heap.size, 3, none⟩ = some (.map ma') := by rw [cell_cells hb5]; rfl
          have q4 : w5.cell? ⟨w3.heap.size, 4, none⟩ = some (.map mc') := by rw [cell_cells hb5]; rfl
          have hcs5 := kd.heap hcs (NoB.not _)
          have c4 : w5.cell? ⟨w.heap.size + 1, 4, none⟩ = some (.map (some w.heap.size)) := by rw [cell_cells hcs5]; rfl
          have k15 := ((k1.then k3).then k4).then kd
          obtain ⟨ob, hupd, hm5⟩ := (HR.out.map.keep k15 (NoB.not _)).update (strKey Tryz.underlying141) Tryz.underlying125 nm (.agg #[.map none, .map me', .map mn', .map ma', .map mc'])
          have HE := Lib.hid (And.intro kd (And.intro k15 (And.intro hcs5 hm5)))
          clear hsp k3 k4 hb14 hb4 hcs hl k1 hb1 kd hb5 hcs5 k15 hm5 hw5
          simp only [List.take_succ_cons, List.take_zero, List.drop_succ_cons, List.drop_zero]
          repeat still_step
          refine wpStill_nil ?_
          go_wp2_with fail
          go_roundg (gk - 1)
          case measure => omega
          case rel =>
            obtain ⟨hsp, k3, k4, hb14, hb4, hcs⟩ := HQ.out
            obtain ⟨hl, k1, hb1⟩ := HP.out
            obtain ⟨kd, k15, hcs5, hm5⟩ := HE.out
            obtain ⟨hn, hI⟩ := HA.out
            have hnm := HNM.out
            have hjl : j < l.length := by omega
            have htk : l.take (j + 1) = l.take j ++ [⟨nm, es, ns, cs, ac⟩] := by
              rw [List.take_succ_eq_append_getElem hjl]
              have := List.getElem?_eq_getElem hjl
              rw [hl] at this
              rw [← Option.some.inj this]
            have hbs : bareSp (l.take (j + 1)) = bareSp (l.take j) := by rw [htk, bareSp_snoc, if_neg hnm]
            have hns : namedSp (l.take (j + 1)) = namedSp (l.take j) ++ [nm] := by rw [htk, namedSp_snoc, if_neg hnm]
            have hnd : (namedSp (l.take (j + 1))).Nodup := (List.Sublist.map _ (List.Sublist.filter _ (List.take_sublist _ _))).nodup hI.nod
            have hfresh : ∀ q ∈ ls, q.1 ≠ nm := by
              intro q hq e
              rw [hns, ← HR.out.keys] at hnd
              exact (List.nodup_append.1 hnd).2.2 q.1 (List.mem_map.2 ⟨q, hq, rfl⟩) nm (by simp) e
            rw [kput_fresh _ hfresh] at hm5
            have hD := hI.D _ (List.mem_of_getElem? hl) hnm
            have hsz := hI.sz _ (List.mem_of_getElem? hl)
            dsimp only at hD hsz
            have k6 : Keep (· = w.heap.size) w5 (ChangeMaps.setBlock w5 w.heap.size ob) := Keep.setBlock _ _ _ (fun _ => rfl)
            have hrs := HR.out.keep.size
            refine ⟨j + 1, by omega, by go_num, me, mn, ma, mc, le, ln, la, lc, _, ⟨(HR.out.keep.then k15).trans k6 (fun _ _ h => h) (fun i hi h => by omega), k6.heap hcs5 (fun h => by omega), ?_, hm5, by rw [List.map_append, HR.out.keys, hns]; rfl, fun p hp => ?_⟩⟩
            · rw [hbs]
              exact (HR.out.bare.keep (M' := fun i => i < w.heap.size + 2) k15 (fun _ _ h => h.elim) (fun _ _ h => h)).keep k6 (fun i hi h => by show i < _; omega) (fun _ _ h => h)
            · rcases List.mem_append.1 hp with h | h
              · exact ⟨(HR.out.spaces p h).1, ((HR.out.spaces p h).2.keep (M' := fun i => i < w.heap.size + 2) k15 (fun _ _ h => h.elim) (fun _ _ h => h)).keep k6 (fun i hi h => by show i < _; omega) (fun _ _ h => h)⟩
              · simp only [List.mem_singleton] at h
                subst h
                rw [hD]
                have hwr : w.heap.size + 2 ≤ wr.heap.size := by have := (Array.getElem?_eq_some_iff.1 HR.out.cells).1; omega
                exact ⟨hsz, none, me', mn', ma', mc', le', ln', la', lc', rfl, (hsp.keep (M' := fun i => i < w.heap.size + 2) (k4.then kd) (fun _ _ h => h.elim) (fun i hi (h : i < w.heap.size + 2) => by show i < _; rw [World.size_alloc]; omega)).keep k6 (fun i hi h => by show i < _; omega) (fun _ _ h => h)⟩
    · have hjn : j = n := by omega
      subst hjn
      clear hlt hj
      go_wp2_with fail
      refine (newSchema_c _ _).mono ?_
      rintro e w2 ⟨b, rfl, hcb, k2⟩
      have HQ := Lib.hid (And.intro hcb k2)
      clear hcb k2
      go_wp2_with fail
      go_ret2
      obtain ⟨hcb, k2⟩ := HQ.out
      obtain ⟨hn, hI⟩ := HA.out
      have hcs := k2.heap HR.out.cells (NoB.not _)
      have hbare := HR.out.bare
      have hkeys := HR.out.keys
      rw [hn, List.take_length] at hbare hkeys
      refine ⟨b, _, me, mn, ma, mc, some w.heap.size, le, ln, la, lc, ls, rfl, hcb, ⟨by rw [cell_cells hcs]; rfl, by rw [cell_cells hcs]; rfl, by rw [cell_cells hcs]; rfl, by rw [cell_cells hcs]; rfl, by rw [cell_cells hcs]; rfl, NoB.not _, hbare.keep k2 (fun _ _ h => h.elim) (fun _ _ h => h.elim), HR.out.map.keep k2 (NoB.not _), fun _ _ => NoB.not _, fun p hp => ⟨(HR.out.spaces p hp).1, (HR.out.spaces p hp).2.keep k2 (fun _ _ h => h.elim) (fun _ _ h => h.elim)⟩⟩, hkeys, HR.out.keep.then k2⟩
end Go.Proofs.YtedgonoeeeiilaaGreatDoor
