/- A text of one declaration: UnmarshalCedar, impl.ParseSchema. -/
import Derived.Test.YtjclpmgfcaadmaaGreatDoorSkD
import Derived.Test.YtjclpmgfcaadmaaGreatDoorBlJ
namespace Go.Proofs.YtjclpmgfcaadmaaGreatDoor
open Go.RowKit Go.Shelf

set_option maxRecDepth 100000 in
set_option maxHeartbeats 4000000 in
theorem unmarshalOk_c {b : Bool} {w : World} {X bb cap : Nat} {o : Option Addr} {s t : ByteArray} {q : Nat} (hX : w.heap[X]? = some (schO (.pointer none))) (h : SrcIs w o bb cap s) (hn : NextIs s 0 1 (kwOf b) q) (hx : DeclOk b s t q) :
    Calls Tryz.prog 12 #[.pointer (some ⟨X, 0, none⟩), .slice o s.size cap] w fun e w' => e = .returned .nilIface ∧ (∃ C, w'.heap[X]? = some (schO (.pointer (some ⟨C, 0, none⟩))) ∧ C ≠ X ∧ AstOk b t w.heap.size C w') ∧ Keep (· = X) w w' := by
  have HP := Lib.hid (pFileOk_c (f := ⟨#[]⟩) h hn hx)
  have e0 : w.cell? ⟨X, 0, none⟩ = some (.string ⟨#[]⟩) := by simp [World.cell?, hX]
  have HX := Lib.hid hX
  clear h hn hx hX
  go_enter Tryz.func12, Tryz.ntmps12
  go_wp2_with fail
  refine HP.out.mono ?_
  rintro e w1 ⟨C, rfl, hC, ha, k1⟩
  have hX1 := k1.heap HX.out (fun h => h)
  have hlt := (Array.getElem?_eq_some_iff.1 HX.out).1
  have c1 : w1.cell? ⟨X, 1, none⟩ = some (.pointer none) := by simp [World.cell?, hX1]
  have f1 : w1.frozen? ⟨X, 1, none⟩ = false := by simp [World.frozen?, hX1]
  have H1 := Lib.hid (And.intro hX1 (And.intro hC (And.intro ha (And.intro k1 hlt))))
  clear hX1 hC ha k1 hlt
  go_wp2_with fail
  go_ret
  obtain ⟨hX1, hC, ha, k1, hlt⟩ := H1.out
  have kk : Keep (· = X) w1 (w1.setCell ⟨X, 1, none⟩ (.pointer (some ⟨C, 0, none⟩))) := Keep.setCell _ _ _ (fun _ => rfl)
  exact ⟨rfl, ⟨C, setCell_lex hX1 1 _, by omega, ha.keep kk (show ¬ C = X by omega) (fun i hi => by omega) (Nat.le_refl _)⟩, k1.trans kk (fun _ _ h => h.elim) (fun _ _ h => h)⟩
set_option maxRecDepth 100000 in
set_option maxHeartbeats 4000000 in
theorem unmarshalNo_c {w : World} {X bb cap : Nat} {o : Option Addr} {s t : ByteArray} {q : Nat} (hX : w.heap[X]? = some (schO (.pointer none))) (h : SrcIs w o bb cap s) (hn : NextIs s 0 1 (kwOf false) q) (hx : ComText s t q ∧ t ∈ resTypes) :
    Calls Tryz.prog 12 #[.pointer (some ⟨X, 0, none⟩), .slice o s.size cap] w fun e w' => (∃ a, e = .returned (.iface 249 (.pointer (some a)))) ∧ Keep NoB w w' := by
  have HP := Lib.hid (pFileNo_c (f := ⟨#[]⟩) h hn hx)
  have e0 : w.cell? ⟨X, 0, none⟩ = some (.string ⟨#[]⟩) := by simp [World.cell?, hX]
  clear h hn hx hX
  go_enter Tryz.func12, Tryz.ntmps12
  go_wp2_with fail
  refine HP.out.mono ?_
  rintro e w1 ⟨⟨a, rfl⟩, k1⟩
  have H1 := Lib.hid k1
  clear k1 e0
  go_wp2_with fail
  go_ret
  exact ⟨⟨_, rfl⟩, H1.out⟩
set_option maxRecDepth 100000 in
set_option maxHeartbeats 4000000 in
theorem implNo_c {w : World} {s t : ByteArray} {q : Nat} (hT : Tabs w) (hs : s.size ≤ 3000) (hn : NextIs s 0 1 (kwOf false) q) (hx : ComText s t q ∧ t ∈ resTypes) :
    Calls Tryz.prog 6 #[.string s] w fun e w' => e = .returned (.tuple #[.slice none 0 0, .bool false]) ∧ Keep NoB w w' := by
  have hcv : ∀ x, (convert 9 50 (.string s)).run Tryz.prog x = .ok (.slice (some ⟨x.heap.size, 0, none⟩) s.size (grownCap x s.size 0 5)) (Lib.bytesWorld x 5 s) := fun x => Lib.run_convert_string_bytes x 9 50 5 s Tryz.underlying9 Tryz.underlying50 Tryz.underlying5
  have HH := Lib.hid (And.intro hT (And.intro hn hx))
  clear hT hn hx
  go_enter Tryz.func6, Tryz.ntmps6
  go_wp2_with fail
  clear hcv
  obtain ⟨w1, hw1⟩ : ∃ x, x = w.alloc (.cells #[.string ⟨#[]⟩, .pointer none] 46) := ⟨_, rfl⟩
  have k1 : Keep NoB w w1 := hw1 ▸ Keep.alloc _ _ _
  have hX1 : w1.heap[w.heap.size]? = some (schO (.pointer none)) := hw1 ▸ (MapKept.heap_alloc _ _).1
  have hz1 : w1.heap.size = w.heap.size + 1 := by rw [hw1, World.size_alloc]
  rw [← hw1]
  clear hw1
  obtain ⟨c, hc⟩ : ∃ c, c = grownCap w1 s.size 0 5 := ⟨_, rfl⟩
  have hcs : s.size ≤ c := hc ▸ grownCap_ge _ _ _ _
  rw [← hc]
  obtain ⟨w2, hw2⟩ : ∃ x, x = Lib.bytesWorld w1 5 s := ⟨_, rfl⟩
  have k2 : Keep NoB w1 w2 := by
    rw [hw2]
    exact bytesWorld_keep _ _ _
  have hb2 : ∀ j, j < s.size → w2.cell? ⟨w.heap.size + 1, j, none⟩ = some (.int .u8 (at8 s j)) := by
    intro j hj
    have h := Lib.bytesWorld_cell w1 5 s j hj
    rw [hz1] at h
    rw [hw2, h, at8_list hj]
  rw [← hw2]
  clear hw2 hc
  have H2 := Lib.hid (And.intro (k1.then k2) (k2.heap hX1 (fun h => h)))
  have HU := Lib.hid (unmarshalNo_c (w := w2) (X := w.heap.size) (bb := w.heap.size + 1) (o := some ⟨w.heap.size + 1, 0, none⟩) (cap := c) (s := s) H2.out.2 ⟨HH.out.1.keep H2.out.1, .inr ⟨rfl, hb2⟩, hcs, hs⟩ HH.out.2.1 HH.out.2.2)
  clear k1 k2 hb2 hX1 hz1 hcs
  refine HU.out.mono ?_
  rintro e w3 ⟨⟨a, rfl⟩, k3⟩
  have H3 := Lib.hid k3
  clear k3
  go_wp2_with fail
  go_ret2
  exact ⟨rfl, H2.out.1.then H3.out⟩
end Go.Proofs.YtjclpmgfcaadmaaGreatDoor
