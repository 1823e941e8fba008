/- The schema's parser: a common type that is a whole number of the language, by its whole name; the names that are refused. -/
import Derived.Test.YtjclpmgfcaadmaaGreatDoorLxG
namespace Go.Proofs.YtjclpmgfcaadmaaGreatDoor
open Go.RowKit Go.Shelf

def cedarLong : Str := ⟨#[95, 95, 99, 101, 100, 97, 114, 58, 58, 76, 111, 110, 103]⟩
theorem cedarLong_parts : ((⟨#[95, 95, 99, 101, 100, 97, 114]⟩ : Str) ++ ((⟨#[58, 58]⟩ : Str) ++ (⟨#[76, 111, 110, 103]⟩ : Str))) = cedarLong := by kernel_rfl
set_option maxRecDepth 100000 in
set_option maxHeartbeats 8000000 in
theorem pPath_c {w0 w : World} {A B : Nat} {o : Option Addr} {bb cap : Nat} {s : ByteArray} {p q1 q2 q3 k : Nat} {t : ByteArray} (h : PIs w0 w A B o bb cap s p 18 ⟨#[95, 95, 99, 101, 100, 97, 114]⟩) (hn1 : NextIs s p 15 ⟨#[58, 58]⟩ q1) (hn2 : NextIs s q1 1 ⟨#[76, 111, 110, 103]⟩ q2) (hn3 : NextIs s q2 k t q3) (hk : k ≠ 15) :
    Calls Tryz.prog 95 #[.pointer (some ⟨A, 0, none⟩)] w fun e w' => e = .returned (.tuple #[.string cedarLong, .nilIface]) ∧ PIs w0 w' A B o bb cap s q3 k t ∧ Keep (AB A B) w w' := by
  obtain ⟨c1, c6⟩ := h.cells
  have HR := Lib.hid (readTok_c h hn1)
  have HN := Lib.hid (And.intro hn2 hn3)
  obtain ⟨P, hP⟩ : ∃ P : Str, P = cedarLong := ⟨_, rfl⟩
  rw [← hP]
  have HP := Lib.hid hP
  clear h hn1 hn2 hn3 hP
  go_enter Tryz.func95, Tryz.ntmps95
  go_wp2_with fail
  refine HR.out.mono ?_
  rintro e w1 ⟨rfl, h1, k1⟩
  obtain ⟨d1, d6⟩ := h1.cells
  have HR2 := Lib.hid (readTok_c h1 HN.out.1)
  have H1 := Lib.hid k1
  clear h1 k1
  go_wp2_with fail
  refine wp_loop_rounds 2 ?_
  rw [rounds_succ]
  go_wp2_with fail
  refine HR2.out.mono ?_
  rintro e w2 ⟨rfl, h2, k2⟩
  obtain ⟨e1, e6⟩ := h2.cells
  have HR3 := Lib.hid (readTok_c h2 HN.out.2)
  have H2 := Lib.hid k2
  clear h2 k2
  go_wp2_with fail
  refine HR3.out.mono ?_
  rintro e w3 ⟨rfl, h3, k3⟩
  obtain ⟨f1, f6⟩ := h3.cells
  have hk1 : ((k : Int) == 15) = false := beq_false_of_ne (by omega)
  have H3 := Lib.hid (And.intro h3 k3)
  clear h3 k3
  go_wp2_with fail
  rw [rounds_succ]
  go_wp2_with fail
  go_ret2
  rw [HP.out, ← cedarLong_parts]
  exact ⟨rfl, H3.out.1, (H1.out.trans H2.out (M'' := AB A B) (fun _ _ h => h) (fun _ _ h => h)).trans H3.out.2 (fun _ _ h => h) (fun _ _ h => h)⟩
set_option maxRecDepth 100000 in
set_option maxHeartbeats 8000000 in
theorem pType_c {w0 w : World} {A B : Nat} {o : Option Addr} {bb cap : Nat} {s : ByteArray} {p q1 q2 q3 k : Nat} {t : ByteArray} (h : PIs w0 w A B o bb cap s p 18 ⟨#[95, 95, 99, 101, 100, 97, 114]⟩) (hn1 : NextIs s p 15 ⟨#[58, 58]⟩ q1) (hn2 : NextIs s q1 1 ⟨#[76, 111, 110, 103]⟩ q2) (hn3 : NextIs s q2 k t q3) (hk : k ≠ 15) :
    Calls Tryz.prog 137 #[.pointer (some ⟨A, 0, none⟩)] w fun e w' => e = .returned (.tuple #[.iface 163 (.string cedarLong), .nilIface]) ∧ PIs w0 w' A B o bb cap s q3 k t ∧ Keep (AB A B) w w' := by
  obtain ⟨c1, c6⟩ := h.cells
  have HP := Lib.hid (pPath_c h hn1 hn2 hn3 hk)
  obtain ⟨P, hP⟩ : ∃ P : Str, P = cedarLong := ⟨_, rfl⟩
  rw [← hP] at HP ⊢
  clear h hn1 hn2 hn3 hP
  go_enter Tryz.func137, Tryz.ntmps137
  go_wp2_with fail
  refine HP.out.mono ?_
  rintro e w1 ⟨rfl, h1, k1⟩
  have H1 := Lib.hid (And.intro h1 k1)
  clear h1 k1
  go_wp2_with fail
  go_ret2
  exact ⟨rfl, H1.out⟩

/-- the names of the language's own types -/
def resTypes : List Str := [⟨#[66, 111, 111, 108]⟩, ⟨#[66, 111, 111, 108, 101, 97, 110]⟩, ⟨#[69, 110, 116, 105, 116, 121]⟩, ⟨#[69, 120, 116, 101, 110, 115, 105, 111, 110]⟩, ⟨#[76, 111, 110, 103]⟩, ⟨#[82, 101, 99, 111, 114, 100]⟩, ⟨#[83, 101, 116]⟩, ⟨#[83, 116, 114, 105, 110, 103]⟩]
theorem reservedTypes_c (w : World) : Calls Tryz.prog 141 #[] w fun e w' => (∃ bb cap, e = .returned (.slice (some ⟨bb, 0, none⟩) resTypes.length cap) ∧ StrsIn w' bb resTypes) ∧ Keep NoB w w' := by
  go_enter Tryz.func141, Tryz.ntmps141
  go_wp2_with fail
  go_ret
  refine ⟨⟨_, _, rfl, fun j x hx => ?_⟩, Keep.alloc _ _ _⟩
  have hlt : j < 8 := (List.getElem?_eq_some_iff.1 hx).1
  rw [show ∀ (cs : Array Value) (i : Nat), (w.alloc (.cells cs 9)).cell? ⟨w.heap.size, i, none⟩ = cs[i]? from fun cs i => cellIn (MapKept.heap_alloc w (.cells cs 9)).1 i]
  match j, hlt with
  | 0, _ => cases hx; rfl
  | 1, _ => cases hx; rfl
  | 2, _ => cases hx; rfl
  | 3, _ => cases hx; rfl
  | 4, _ => cases hx; rfl
  | 5, _ => cases hx; rfl
  | 6, _ => cases hx; rfl
  | 7, _ => cases hx; rfl
theorem zeroACom (w : World) : (zeroValue 127).run Tryz.prog w = .ok (.agg #[.map none, .nilIface]) w := by kernel_rfl
set_option maxRecDepth 100000 in
set_option maxHeartbeats 4000000 in
theorem pErrorf_c (w : World) (v1 v2 v3 : Value) : Calls Tryz.prog 66 #[v1, v2, v3] w fun e w' => (∃ a, e = .returned (.iface 249 (.pointer (some a)))) ∧ Keep NoB w w' := by
  have hN : Calls Tryz.prog 98 #[.string ⟨#[112, 97, 114, 115, 101, 32, 101, 114, 114, 111, 114]⟩] w fun e w' => (∃ a, e = .returned (.iface 249 (.pointer (some a)))) ∧ Keep NoB w w' := by
    go_enter Tryz.func98, Tryz.ntmps98
    go_wp2_with fail
    go_ret
    exact ⟨⟨_, rfl⟩, Keep.alloc _ _ _⟩
  have HN := Lib.hid hN
  clear hN
  go_enter Tryz.func66, Tryz.ntmps66
  go_wp2_with fail
  refine HN.out.mono ?_
  rintro e w1 ⟨⟨a, rfl⟩, k1⟩
  have H1 := Lib.hid k1
  clear k1
  go_wp2_with fail
  go_ret
  exact ⟨⟨_, rfl⟩, H1.out⟩
end Go.Proofs.YtjclpmgfcaadmaaGreatDoor
