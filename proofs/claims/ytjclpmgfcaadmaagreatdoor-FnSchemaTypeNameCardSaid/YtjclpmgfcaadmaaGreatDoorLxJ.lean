/- The schema's parser: the declaration of a common type. -/
import Derived.Test.YtjclpmgfcaadmaaGreatDoorLxH
namespace Go.Proofs.YtjclpmgfcaadmaaGreatDoor
open Go.RowKit Go.Shelf

set_option maxRecDepth 100000 in
set_option maxHeartbeats 8000000 in
theorem pTypeDecl_c {w0 w : World} {A B C : Nat} {o : Option Addr} {bb cap : Nat} {s : ByteArray} {p q1 q2 q3 q4 q5 q6 : Nat} {t : ByteArray} (h : PIs w0 w A B o bb cap s p 1 t) (hC : w.heap[C]? = some (astO none none none none none)) (hC0 : w0.heap.size ≤ C) (ht : t ∉ resTypes)
    (hn1 : NextIs s p 17 ⟨#[61]⟩ q1) (hn2 : NextIs s q1 18 ⟨#[95, 95, 99, 101, 100, 97, 114]⟩ q2) (hn3 : NextIs s q2 15 ⟨#[58, 58]⟩ q3) (hn4 : NextIs s q3 1 ⟨#[76, 111, 110, 103]⟩ q4) (hn5 : NextIs s q4 13 ⟨#[59]⟩ q5) (hn6 : NextIs s q5 0 ⟨#[]⟩ q6) :
    Calls Tryz.prog 101 #[.pointer (some ⟨A, 0, none⟩), .map none, .pointer (some ⟨C, 0, none⟩)] w fun e w' => e = .returned .nilIface ∧ PIs w0 w' A B o bb cap s q6 0 ⟨#[]⟩ ∧
      (∃ m, w.heap.size ≤ m ∧ w'.heap[C]? = some (astO none none none (some m) none) ∧ KMap Value.string w' m [(t, .agg #[.map none, .iface 163 (.string cedarLong)])]) ∧ Keep (ABC A B C) w w' := by
  obtain ⟨c1, c6⟩ := h.cells
  obtain ⟨P, hP⟩ : ∃ P : Str, P = cedarLong := ⟨_, rfl⟩
  rw [← hP]
  have H0 := Lib.hid (And.intro h (And.intro hC (And.intro hC0 (And.intro ht (And.intro hn1 (And.intro hn2 (And.intro hn3 (And.intro hn4 (And.intro hn5 (And.intro hn6 hP))))))))))
  clear h hC hC0 ht hn1 hn2 hn3 hn4 hn5 hn6 hP
  go_enter Tryz.func101, Tryz.ntmps101
  go_wp2_with fail
  refine (reservedTypes_c _).mono ?_
  rintro e w1 ⟨⟨br, cr, rfl, hr⟩, k1⟩
  have H1 := Lib.hid (And.intro hr k1)
  clear hr k1
  have hcn := slContains_c (w := w1) (cap := cr) t H1.out.1 (by decide)
  rw [decide_eq_false H0.out.2.2.2.1] at hcn
  have HC := Lib.hid hcn
  clear hcn
  go_wp2_with fail
  refine HC.out.mono ?_
  rintro e w1' ⟨rfl, hw1⟩
  obtain rfl : w1 = w1' := hw1.symm
  clear hw1
  have HR1 := Lib.hid (readTok_c (H0.out.1.keep0 H1.out.2) H0.out.2.2.2.2.1)
  go_wp2_with fail
  refine HR1.out.mono ?_
  rintro e w2 ⟨rfl, h2, k2⟩
  have HR2 := Lib.hid (pExpect_c h2 H0.out.2.2.2.2.2.1)
  have H2 := Lib.hid (H1.out.2.first k2)
  clear h2 k2
  go_wp2_with fail
  refine HR2.out.mono ?_
  rintro e w3 ⟨rfl, h3, k3⟩
  have HR3 := Lib.hid (pType_c h3 H0.out.2.2.2.2.2.2.1 H0.out.2.2.2.2.2.2.2.1 H0.out.2.2.2.2.2.2.2.2.1 (by decide))
  rw [← H0.out.2.2.2.2.2.2.2.2.2.2] at HR3
  have H3 := Lib.hid (H2.out.trans k3 (M'' := AB A B) (fun _ _ h => h) (fun _ _ h => h))
  clear h3 k3
  go_wp2_with fail
  refine HR3.out.mono ?_
  rintro e w4 ⟨rfl, h4, k4⟩
  have HR4 := Lib.hid (pExpect_c h4 H0.out.2.2.2.2.2.2.2.2.2.1)
  have H4 := Lib.hid (H3.out.trans k4 (M'' := AB A B) (fun _ _ h => h) (fun _ _ h => h))
  clear h4 k4
  go_wp2_with fail
  refine HR4.out.mono ?_
  rintro e w5 ⟨rfl, h5, k5⟩
  obtain ⟨h0, hC, hC0, hrest⟩ := H0.out
  clear hrest
  obtain ⟨nA, nB, nbb⟩ := h0.ne_ast hC
  have k05 : Keep (AB A B) w w5 := H4.out.trans k5 (fun _ _ h => h) (fun _ _ h => h)
  have hC2 := k05.heap hC (by rintro (e | e) <;> omega)
  have hltC := (Array.getElem?_eq_some_iff.1 hC).1
  obtain ⟨_, _, _, c3, _, _, z3⟩ := astCells hC2
  have hmm := @run_makeMap Tryz.prog
  have heq := fun (x : World) => run_eql_map_nil (P := Tryz.prog) x 59 86 127 none Tryz.underlying59
  have hC3 := (Keep.alloc w5 (.map #[] 0) NoB).heap hC2 (fun h => h)
  obtain ⟨_, _, _, a3, _, _, y3⟩ := astCells hC3
  have H5 := Lib.hid (And.intro h5 (And.intro k05 (And.intro hC2 (And.intro nA (And.intro nB (And.intro nbb hltC))))))
  clear h0 hC hC0 nA nB nbb k05 hC2 hC3 hltC h5 k5
  go_upto_region 21 with fail
  clear hmm heq c3 z3 a3 y3
  obtain ⟨w6, hw6⟩ : ∃ x, x = w5.alloc (.map #[] 0) := ⟨_, rfl⟩
  have k6 : Keep NoB w5 w6 := hw6 ▸ Keep.alloc _ _ _
  have hm6 : KMap Value.string w6 w5.heap.size [] := hw6 ▸ KMap.made w5
  rw [← hw6]
  clear hw6
  obtain ⟨w7, hw7⟩ : ∃ x, x = w6.setCell ⟨C, 3, none⟩ (.map (some w5.heap.size)) := ⟨_, rfl⟩
  rw [← hw7]
  obtain ⟨h5, k05, hC2, nA, nB, nbb, hltC⟩ := H5.out
  have hsz := k05.size
  have kC7 : Keep (· = C) w6 w7 := hw7 ▸ Keep.setCell _ _ _ (fun _ => rfl)
  have hC7 : w7.heap[C]? = some (astO none none none (some w5.heap.size) none) := hw7 ▸ setCell_lex (k6.heap hC2 (fun h => h)) 3 _
  have hm7 := hm6.keep kC7 (show ¬ w5.heap.size = C by omega)
  obtain ⟨_, _, _, a3, _⟩ := astCells hC7
  have hlk := hm7.lookup (strKey Tryz.underlying86) Tryz.underlying59 (zeroACom w7) t true
  simp only [if_true, kget_nil, Option.getD_none, Option.isSome_none] at hlk
  have kx8 := Keep.alloc w7 (.cells #[.map none, .nilIface] 127) NoB
  have hC8 := kx8.heap hC7 (fun h => h)
  obtain ⟨_, _, _, b3, _⟩ := astCells hC8
  obtain ⟨ob, hupd, hm9⟩ := (hm7.keep kx8 (fun h => h)).update (strKey Tryz.underlying86) Tryz.underlying59 t (.agg #[.map none, .iface 163 (.string P)])
  have HF := Lib.hid (And.intro hm9 (And.intro kx8 (And.intro hC7 (And.intro kC7 (And.intro k6 hsz)))))
  clear h5 k05 hC2 nA nB nbb hsz kC7 hC7 hm7 hm6 kx8 hC8 hm9 hw7 k6 hltC
  go_wp2_with fail
  go_ret
  obtain ⟨h5, k05, hC2, nA, nB, nbb, hltC⟩ := H5.out
  obtain ⟨hm9, kx8, hC7, kC7, k6, hsz⟩ := HF.out
  have hC0 := H0.out.2.2.1
  have hlA := h5.ltA
  have hlB := h5.ltB
  have hAB := h5.keep.size
  have kM : ∀ (x : World) (o : Obj), Keep (· = w5.heap.size) x (ChangeMaps.setBlock x w5.heap.size o) := fun x o => Keep.setBlock _ _ _ (fun _ => rfl)
  have hk57 : Keep (· = C) w5 w7 := k6.first kC7
  have hk58 : Keep (· = C) w5 _ := hk57.then kx8
  have hk59 : Keep (· = C) w5 _ := hk58.trans (kM _ ob) (fun _ _ h => h) (fun i hi h => by omega)
  refine ⟨rfl, ?_, ⟨w5.heap.size, hsz, (kM _ ob).heap (kx8.heap hC7 (fun h => h)) (show ¬ C = w5.heap.size by omega), hm9⟩, k05.trans hk59 (fun _ _ h => h.elim .inl fun h => .inr (.inl h)) (fun _ _ h => .inr (.inr h))⟩
  exact h5.other hk59 (fun e => nA e.symm) (fun e => nB e.symm) (nbb.imp id fun h e => h e.symm) (fun i hi e => by omega)
set_option maxRecDepth 100000 in
set_option maxHeartbeats 8000000 in
theorem pTypeNo_c {w0 w : World} {A B : Nat} {v : Value} {o : Option Addr} {bb cap : Nat} {s : ByteArray} {p : Nat} {t : ByteArray} (h : PIs w0 w A B o bb cap s p 1 t) (ht : t ∈ resTypes) :
    Calls Tryz.prog 101 #[.pointer (some ⟨A, 0, none⟩), .map none, v] w fun e w' => (∃ a, e = .returned (.iface 249 (.pointer (some a)))) ∧ Keep NoB w w' := by
  obtain ⟨c1, c6⟩ := h.cells
  have H0 := Lib.hid ht
  clear h ht
  go_enter Tryz.func101, Tryz.ntmps101
  go_wp2_with fail
  refine (reservedTypes_c _).mono ?_
  rintro e w1 ⟨⟨br, cr, rfl, hr⟩, k1⟩
  have H1 := Lib.hid (And.intro hr k1)
  clear hr k1
  have hcn := slContains_c (w := w1) (cap := cr) t H1.out.1 (by decide)
  rw [decide_eq_true H0.out] at hcn
  have HC := Lib.hid hcn
  clear hcn
  go_wp2_with fail
  refine HC.out.mono ?_
  rintro e w1' ⟨rfl, hw1⟩
  obtain rfl : w1 = w1' := hw1.symm
  clear hw1
  go_wp2_with fail
  refine (pErrorf_c _ _ _ _).mono ?_
  rintro e w2 ⟨⟨a, rfl⟩, k2⟩
  have H2 := Lib.hid k2
  clear k2
  go_wp2_with fail
  go_ret
  first | exact ⟨⟨_, rfl⟩, H1.out.2.then ((Keep.alloc _ _ NoB).then H2.out)⟩ | exact ⟨⟨_, rfl⟩, H1.out.2.then (H2.out)⟩
end Go.Proofs.YtjclpmgfcaadmaaGreatDoor
