/- The schema's parser: a text of one declaration. -/
import Derived.Test.YtjclpmgfcaadmaaGreatDoorLxJ
namespace Go.Proofs.YtjclpmgfcaadmaaGreatDoor
open Go.RowKit Go.Shelf

/-- A text of one entity type. -/
structure EntText (s : ByteArray) (t : ByteArray) (p0 : Nat) : Prop where
  ex : ∃ q0 q1 q2, NextIs s p0 1 t q0 ∧ NextIs s q0 13 ⟨#[59]⟩ q1 ∧ NextIs s q1 0 ⟨#[]⟩ q2
/-- A text of one common type. -/
structure ComText (s : ByteArray) (t : ByteArray) (p0 : Nat) : Prop where
  ex : ∃ q0 q1 q2 q3 q4 q5 q6, NextIs s p0 1 t q0 ∧ NextIs s q0 17 ⟨#[61]⟩ q1 ∧ NextIs s q1 18 ⟨#[95, 95, 99, 101, 100, 97, 114]⟩ q2 ∧ NextIs s q2 15 ⟨#[58, 58]⟩ q3 ∧ NextIs s q3 1 ⟨#[76, 111, 110, 103]⟩ q4 ∧ NextIs s q4 13 ⟨#[59]⟩ q5 ∧ NextIs s q5 0 ⟨#[]⟩ q6
def entV : Value := .agg #[.map none, .slice none 0 0, .map none, .nilIface]
def comV : Value := .agg #[.map none, .iface 163 (.string cedarLong)]
def EntMade (w0 w' : World) (A B : Nat) (o : Option Addr) (bb cap : Nat) (s : ByteArray) (C L : Nat) (t : ByteArray) : Prop :=
  (∃ q, PIs w0 w' A B o bb cap s q 0 ⟨#[]⟩) ∧ ∃ m, L ≤ m ∧ w'.heap[C]? = some (astO (some m) none none none none) ∧ KMap Value.string w' m [(t, entV)]
def ComMade (w0 w' : World) (A B : Nat) (o : Option Addr) (bb cap : Nat) (s : ByteArray) (C L : Nat) (t : ByteArray) : Prop :=
  (∃ q, PIs w0 w' A B o bb cap s q 0 ⟨#[]⟩) ∧ ∃ m, L ≤ m ∧ w'.heap[C]? = some (astO none none none (some m) none) ∧ KMap Value.string w' m [(t, comV)]

set_option maxRecDepth 100000 in
set_option maxHeartbeats 8000000 in
theorem pDeclEnt_c {w0 w : World} {A B C : Nat} {o : Option Addr} {bb cap : Nat} {s : ByteArray} {p : Nat} {t : ByteArray} (h : PIs w0 w A B o bb cap s p 1 ⟨#[101, 110, 116, 105, 116, 121]⟩) (hx : EntText s t p) (hC : w.heap[C]? = some (astO none none none none none)) (hC0 : w0.heap.size ≤ C) :
    Calls Tryz.prog 67 #[.pointer (some ⟨A, 0, none⟩), .map none, .pointer (some ⟨C, 0, none⟩)] w fun e w' => e = .returned .nilIface ∧ EntMade w0 w' A B o bb cap s C w.heap.size t ∧ Keep (ABC A B C) w w' := by
  obtain ⟨c1, c6⟩ := h.cells
  obtain ⟨q0, q1, q2, n0, n1, n2⟩ := hx.ex
  have HR := Lib.hid (readTok_c h n0)
  obtain ⟨nA, nB, _⟩ := h.ne_ast hC
  have H0 := Lib.hid (And.intro hC (And.intro nA (And.intro nB (And.intro n1 n2))))
  have HC0 := Lib.hid hC0
  clear h hx hC nA nB n0 n1 n2 hC0
  go_enter Tryz.func67, Tryz.ntmps67
  go_wp2_with fail
  refine HR.out.mono ?_
  rintro e w1 ⟨rfl, h1, k1⟩
  have hC1 := k1.heap H0.out.1 (by rintro (e | e); exact H0.out.2.1 e; exact H0.out.2.2.1 e)
  have H1 := Lib.hid k1
  have HE := Lib.hid (pEntity_c h1 hC1 HC0.out H0.out.2.2.2.1 H0.out.2.2.2.2)
  clear h1 k1 hC1
  go_wp2_with fail
  refine HE.out.mono ?_
  rintro e w2 ⟨rfl, h2, ⟨m, hm, hCm, hmm⟩, k2⟩
  have H2 := Lib.hid (And.intro h2 (And.intro hm (And.intro hCm (And.intro hmm k2))))
  clear h2 hm hCm hmm k2
  go_wp2_with fail
  go_ret
  obtain ⟨h2, hm, hCm, hmm, k2⟩ := H2.out
  exact ⟨rfl, ⟨⟨_, h2⟩, m, Nat.le_trans H1.out.size hm, hCm, hmm⟩, H1.out.trans k2 (fun _ _ h => h.elim .inl fun h => .inr (.inl h)) (fun _ _ h => h)⟩

set_option maxRecDepth 100000 in
set_option maxHeartbeats 8000000 in
theorem pDeclCom_c {w0 w : World} {A B C : Nat} {o : Option Addr} {bb cap : Nat} {s : ByteArray} {p : Nat} {t : ByteArray} (h : PIs w0 w A B o bb cap s p 1 ⟨#[116, 121, 112, 101]⟩) (hx : ComText s t p) (hC : w.heap[C]? = some (astO none none none none none)) (hC0 : w0.heap.size ≤ C) (ht : t ∉ resTypes) :
    Calls Tryz.prog 67 #[.pointer (some ⟨A, 0, none⟩), .map none, .pointer (some ⟨C, 0, none⟩)] w fun e w' => e = .returned .nilIface ∧ ComMade w0 w' A B o bb cap s C w.heap.size t ∧ Keep (ABC A B C) w w' := by
  obtain ⟨c1, c6⟩ := h.cells
  obtain ⟨q0, q1, q2, q3, q4, q5, q6, n0, n1, n2, n3, n4, n5, n6⟩ := hx.ex
  have HR := Lib.hid (readTok_c h n0)
  obtain ⟨nA, nB, _⟩ := h.ne_ast hC
  have H0 := Lib.hid (And.intro hC (And.intro nA (And.intro nB (And.intro n1 (And.intro n2 (And.intro n3 (And.intro n4 (And.intro n5 n6))))))))
  have HC0 := Lib.hid (And.intro hC0 ht)
  clear h hx hC nA nB n0 n1 n2 n3 n4 n5 n6 hC0 ht
  go_enter Tryz.func67, Tryz.ntmps67
  go_wp2_with fail
  refine HR.out.mono ?_
  rintro e w1 ⟨rfl, h1, k1⟩
  have hC1 := k1.heap H0.out.1 (by rintro (e | e); exact H0.out.2.1 e; exact H0.out.2.2.1 e)
  have H1 := Lib.hid k1
  have HE := Lib.hid (pTypeDecl_c h1 hC1 HC0.out.1 HC0.out.2 H0.out.2.2.2.1 H0.out.2.2.2.2.1 H0.out.2.2.2.2.2.1 H0.out.2.2.2.2.2.2.1 H0.out.2.2.2.2.2.2.2.1 H0.out.2.2.2.2.2.2.2.2)
  clear h1 k1 hC1
  go_wp2_with fail
  refine HE.out.mono ?_
  rintro e w2 ⟨rfl, h2, ⟨m, hm, hCm, hmm⟩, k2⟩
  have H2 := Lib.hid (And.intro h2 (And.intro hm (And.intro hCm (And.intro hmm k2))))
  clear h2 hm hCm hmm k2
  go_wp2_with fail
  go_ret
  obtain ⟨h2, hm, hCm, hmm, k2⟩ := H2.out
  exact ⟨rfl, ⟨⟨_, h2⟩, m, Nat.le_trans H1.out.size hm, hCm, hmm⟩, H1.out.trans k2 (fun _ _ h => h.elim .inl fun h => .inr (.inl h)) (fun _ _ h => h)⟩

set_option maxRecDepth 100000 in
set_option maxHeartbeats 8000000 in
theorem pDeclNo_c {w0 w : World} {A B C : Nat} {o : Option Addr} {bb cap : Nat} {s : ByteArray} {p : Nat} {t : ByteArray} (h : PIs w0 w A B o bb cap s p 1 ⟨#[116, 121, 112, 101]⟩) (hx : ComText s t p) (hC : w.heap[C]? = some (astO none none none none none)) (hC0 : w0.heap.size ≤ C) (ht : t ∈ resTypes) :
    Calls Tryz.prog 67 #[.pointer (some ⟨A, 0, none⟩), .map none, .pointer (some ⟨C, 0, none⟩)] w fun e w' => (∃ a, e = .returned (.iface 249 (.pointer (some a)))) ∧ Keep (ABC A B C) w w' := by
  obtain ⟨c1, c6⟩ := h.cells
  obtain ⟨q0, q1, q2, q3, q4, q5, q6, n0, n1, n2, n3, n4, n5, n6⟩ := hx.ex
  have HR := Lib.hid (readTok_c h n0)
  obtain ⟨nA, nB, _⟩ := h.ne_ast hC
  have H0 := Lib.hid (And.intro hC (And.intro nA (And.intro nB (And.intro n1 (And.intro n2 (And.intro n3 (And.intro n4 (And.intro n5 n6))))))))
  have HC0 := Lib.hid (And.intro hC0 ht)
  clear h hx hC nA nB n0 n1 n2 n3 n4 n5 n6 hC0 ht
  go_enter Tryz.func67, Tryz.ntmps67
  go_wp2_with fail
  refine HR.out.mono ?_
  rintro e w1 ⟨rfl, h1, k1⟩
  have hC1 := k1.heap H0.out.1 (by rintro (e | e); exact H0.out.2.1 e; exact H0.out.2.2.1 e)
  have H1 := Lib.hid k1
  have HE := Lib.hid (pTypeNo_c (v := .pointer (some ⟨C, 0, none⟩)) h1 HC0.out.2)
  clear h1 k1 hC1
  go_wp2_with fail
  refine HE.out.mono ?_
  rintro e w2 ⟨⟨a, rfl⟩, k2⟩
  have H2 := Lib.hid k2
  clear k2
  go_wp2_with fail
  go_ret
  exact ⟨⟨_, rfl⟩, (H1.out.then H2.out).mono (fun _ _ h => h.elim .inl fun h => .inr (.inl h))⟩

set_option maxRecDepth 100000 in
set_option maxHeartbeats 8000000 in
theorem pSchemaEnt_c {w0 w : World} {A B : Nat} {o : Option Addr} {bb cap : Nat} {s : ByteArray} {p : Nat} {t : ByteArray} (h : PIs w0 w A B o bb cap s p 1 ⟨#[101, 110, 116, 105, 116, 121]⟩) (hx : EntText s t p) :
    Calls Tryz.prog 47 #[.pointer (some ⟨A, 0, none⟩)] w fun e w' => ∃ C, e = .returned (.tuple #[.pointer (some ⟨C, 0, none⟩), .nilIface]) ∧ w.heap.size ≤ C ∧ ∃ m, w.heap.size ≤ m ∧ w'.heap[C]? = some (astO (some m) none none none none) ∧ KMap Value.string w' m [(t, entV)] ∧ Keep (AB A B) w w' := by
  have H0 := Lib.hid (And.intro h hx)
  clear h hx
  go_enter Tryz.func47, Tryz.ntmps47
  go_wp2_with fail
  obtain ⟨w1, hw1⟩ : ∃ x, x = w.alloc (.cells #[.map none, .map none, .map none, .map none, .map none] 63) := ⟨_, rfl⟩
  have k1 : Keep NoB w w1 := hw1 ▸ Keep.alloc _ _ _
  have hC1 : w1.heap[w.heap.size]? = some (astO none none none none none) := hw1 ▸ (MapKept.heap_alloc _ _).1
  rw [← hw1]
  clear hw1
  have h1 := H0.out.1.keep0 k1
  obtain ⟨c1, c6⟩ := h1.cells
  have HA := Lib.hid (pAnn_c c1 (by decide))
  have HD := Lib.hid (pDeclEnt_c h1 H0.out.2 hC1 H0.out.1.keep.size)
  have H1 := Lib.hid k1
  clear h1 k1 hC1
  refine wp_loop_rounds 2 ?_
  rw [rounds_succ]
  go_wp2_with fail
  refine HA.out.mono ?_
  rintro e w1' ⟨rfl, hw1⟩
  obtain rfl : w1 = w1' := hw1.symm
  clear hw1
  go_wp2_with fail
  refine HD.out.mono ?_
  rintro e w2 ⟨rfl, ⟨⟨q, h2⟩, m, hm, hCm, hmm⟩, k2⟩
  obtain ⟨d1, d6⟩ := h2.cells
  have H2 := Lib.hid (And.intro h2 (And.intro hm (And.intro hCm (And.intro hmm k2))))
  clear h2 hm hCm hmm k2
  go_wp2_with fail
  rw [rounds_succ]
  go_wp2_with fail
  go_ret2
  obtain ⟨h2, hm, hCm, hmm, k2⟩ := H2.out
  exact ⟨_, rfl, Nat.le_refl _, m, Nat.le_trans H1.out.size hm, hCm, hmm, H1.out.trans k2 (M'' := AB A B) (fun _ _ h => h.elim) (fun i hi h => h.elim .inl fun h => h.elim .inr fun h => by omega)⟩

set_option maxRecDepth 100000 in
set_option maxHeartbeats 8000000 in
theorem pSchemaCom_c {w0 w : World} {A B : Nat} {o : Option Addr} {bb cap : Nat} {s : ByteArray} {p : Nat} {t : ByteArray} (h : PIs w0 w A B o bb cap s p 1 ⟨#[116, 121, 112, 101]⟩) (hx : ComText s t p) (ht : t ∉ resTypes) :
    Calls Tryz.prog 47 #[.pointer (some ⟨A, 0, none⟩)] w fun e w' => ∃ C, e = .returned (.tuple #[.pointer (some ⟨C, 0, none⟩), .nilIface]) ∧ w.heap.size ≤ C ∧ ∃ m, w.heap.size ≤ m ∧ w'.heap[C]? = some (astO none none none (some m) none) ∧ KMap Value.string w' m [(t, comV)] ∧ Keep (AB A B) w w' := by
  have H0 := Lib.hid (And.intro h (And.intro hx ht))
  clear h hx ht
  go_enter Tryz.func47, Tryz.ntmps47
  go_wp2_with fail
  obtain ⟨w1, hw1⟩ : ∃ x, x = w.alloc (.cells #[.map none, .map none, .map none, .map none, .map none] 63) := ⟨_, rfl⟩
  have k1 : Keep NoB w w1 := hw1 ▸ Keep.alloc _ _ _
  have hC1 : w1.heap[w.heap.size]? = some (astO none none none none none) := hw1 ▸ (MapKept.heap_alloc _ _).1
  rw [← hw1]
  clear hw1
  have h1 := H0.out.1.keep0 k1
  obtain ⟨c1, c6⟩ := h1.cells
  have HA := Lib.hid (pAnn_c c1 (by decide))
  have HD := Lib.hid (pDeclCom_c h1 H0.out.2.1 hC1 H0.out.1.keep.size H0.out.2.2)
  have H1 := Lib.hid k1
  clear h1 k1 hC1
  refine wp_loop_rounds 2 ?_
  rw [rounds_succ]
  go_wp2_with fail
  refine HA.out.mono ?_
  rintro e w1' ⟨rfl, hw1⟩
  obtain rfl : w1 = w1' := hw1.symm
  clear hw1
  go_wp2_with fail
  refine HD.out.mono ?_
  rintro e w2 ⟨rfl, ⟨⟨q, h2⟩, m, hm, hCm, hmm⟩, k2⟩
  obtain ⟨d1, d6⟩ := h2.cells
  have H2 := Lib.hid (And.intro h2 (And.intro hm (And.intro hCm (And.intro hmm k2))))
  clear h2 hm hCm hmm k2
  go_wp2_with fail
  rw [rounds_succ]
  go_wp2_with fail
  go_ret2
  obtain ⟨h2, hm, hCm, hmm, k2⟩ := H2.out
  exact ⟨_, rfl, Nat.le_refl _, m, Nat.le_trans H1.out.size hm, hCm, hmm, H1.out.trans k2 (M'' := AB A B) (fun _ _ h => h.elim) (fun i hi h => h.elim .inl fun h => h.elim .inr fun h => by omega)⟩

set_option maxRecDepth 100000 in
set_option maxHeartbeats 8000000 in
theorem pSchemaNo_c {w0 w : World} {A B : Nat} {o : Option Addr} {bb cap : Nat} {s : ByteArray} {p : Nat} {t : ByteArray} (h : PIs w0 w A B o bb cap s p 1 ⟨#[116, 121, 112, 101]⟩) (hx : ComText s t p) (ht : t ∈ resTypes) :
    Calls Tryz.prog 47 #[.pointer (some ⟨A, 0, none⟩)] w fun e w' => (∃ a, e = .returned (.tuple #[.pointer none, .iface 249 (.pointer (some a))])) ∧ Keep (AB A B) w w' := by
  have H0 := Lib.hid (And.intro h (And.intro hx ht))
  clear h hx ht
  go_enter Tryz.func47, Tryz.ntmps47
  go_wp2_with fail
  obtain ⟨w1, hw1⟩ : ∃ x, x = w.alloc (.cells #[.map none, .map none, .map none, .map none, .map none] 63) := ⟨_, rfl⟩
  have k1 : Keep NoB w w1 := hw1 ▸ Keep.alloc _ _ _
  have hC1 : w1.heap[w.heap.size]? = some (astO none none none none none) := hw1 ▸ (MapKept.heap_alloc _ _).1
  rw [← hw1]
  clear hw1
  have h1 := H0.out.1.keep0 k1
  obtain ⟨c1, c6⟩ := h1.cells
  have HA := Lib.hid (pAnn_c c1 (by decide))
  have HD := Lib.hid (pDeclNo_c h1 H0.out.2.1 hC1 H0.out.1.keep.size H0.out.2.2)
  have H1 := Lib.hid k1
  clear h1 k1 hC1
  refine wp_loop_rounds 2 ?_
  rw [rounds_succ]
  go_wp2_with fail
  refine HA.out.mono ?_
  rintro e w1' ⟨rfl, hw1⟩
  obtain rfl : w1 = w1' := hw1.symm
  clear hw1
  go_wp2_with fail
  refine HD.out.mono ?_
  rintro e w2 ⟨⟨a, rfl⟩, k2⟩
  have H2 := Lib.hid k2
  clear k2
  go_wp2_with fail
  go_ret2
  exact ⟨⟨_, rfl⟩, H1.out.trans H2.out (M'' := AB A B) (fun _ _ h => h.elim) (fun i hi h => h.elim .inl fun h => h.elim .inr fun h => by omega)⟩

end Go.Proofs.YtjclpmgfcaadmaaGreatDoor
