/- The law's ordering of one entry. -/
import Derived.Test.YtjclpmgfcaadmaaGreatDoorLkB
import Derived.Deep.AppendLies
namespace Go.Proofs.YtjclpmgfcaadmaaGreatDoor
open Go.RowKit

theorem infoEntry : (Tryz.prog.info? 79).map (fun i => (i.zero, i.size, i.bytes)) = some (some (.agg #[.string ⟨#[]⟩, .string ⟨#[]⟩]), 2, 32) := by kernel_rfl
/-- The cells of a row of the call's own. -/
theorem ownsRow_cell {w : World} {base : Nat} {E : TypeId} {size gg n cap i : Nat} {xs : List Value} {a : Value} (h : w.ownsRow base E size (.slice (some ⟨gg, 0, none⟩) n cap) n xs) (hi : xs[i]? = some a) :
    w.cell? ⟨gg, i, none⟩ = some a ∧ w.frozen? ⟨gg, i, none⟩ = false ∧ base ≤ gg := by
  obtain ⟨hl, ⟨h, _⟩ | ⟨g, cap', cur, hv, hb, hh, h1, h2, h3, h4⟩⟩ := h
  · cases h
  · cases hv
    have hc : cur[i]? = some a := by
      rw [← h4, List.getElem?_take] at hi
      split at hi
      · simpa using hi
      · cases hi
    exact ⟨by rw [cellIn hh]; exact hc, by simp [World.frozen?, hh], hb⟩
theorem ownsRow_block {w : World} {base : Nat} {E : TypeId} {size gg n cap : Nat} {xs : List Value} (h : w.ownsRow base E size (.slice (some ⟨gg, 0, none⟩) n cap) n xs) :
    ∃ cur fz, w.heap[gg]? = some (.cells cur E fz) ∧ xs.length ≤ cur.size := by
  obtain ⟨hl, ⟨h, _⟩ | ⟨g, cap', cur, hv, hb, hh, h1, h2, h3, h4⟩⟩ := h
  · cases h
  · cases hv
    refine ⟨cur, _, hh, ?_⟩
    rw [← h4]
    simp only [List.length_take, Array.length_toList]
    omega
set_option maxRecDepth 100000 in
set_option maxHeartbeats 16000000 in
theorem ordering1_c {w : World} {bv cap : Nat} {nm tx : Str} (h0 : w.cell? ⟨bv, 0, none⟩ = some (.string nm)) (h1 : w.cell? ⟨bv, 1, none⟩ = some (.string tx)) (hn : nm.size ≤ 1000) (ht : tx.size ≤ 100000) :
    Calls Tryz.prog 19 #[.slice (some ⟨bv, 0, none⟩) 1 cap] w fun e w' => e = .returned (.string (frm nm ++ frm tx)) ∧ Keep NoB w w' := by
  obtain ⟨iU, hiU, hzU, hsU, hbU⟩ := info_parts infoEntry
  have HU := Lib.hid (And.intro hiU (And.intro hzU (And.intro hsU hbU)))
  have HO := Lib.hid (World.ownsRow_nil w w.heap.size 79 2)
  have HJ := Lib.hid (show ∀ x, Keep NoB w x → x.cell? ⟨bv, 0, none⟩ = some (.string nm) ∧ x.cell? ⟨bv, 1, none⟩ = some (.string tx) from fun x k => ⟨k.cell h0 (fun h => h), k.cell h1 (fun h => h)⟩)
  clear hiU hzU hsU hbU
  go_enter Tryz.func19, Tryz.ntmps19
  go_wp2_with fail
  refine wp_loop_rounds 2 ?_
  rw [rounds_succ]
  go_wp2_with fail
  refine wp_loop_once ?_
  go_wp2_with (at_builtin
               refine wpList_append_lies _ rfl _ _ 75 rfl w.heap.size 79 iU _ 2 32 Tryz.underlying75 HU.out.1 HU.out.2.1 HU.out.2.2.1 HU.out.2.2.2 rfl (by omega) (.slice none 0 0) 0 [] rfl (HO.out.alloc _) ⟨w.heap.size, 0, none⟩ 1 1 [.string nm, .string tx] rfl rfl
                 (World.news_of_block (cs := #[.string nm, .string tx]) (t := 79) (fr := (0, 0)) (heap_alloc_new w _)) (by simp [Value.oneCell']) (by omega) (by unfold maxLen; omega) (by omega) ?c5 (w.heap.size + 1) (by simp) ?_
               case c5 => rw [World.size_alloc]; omega
               intro gg cp w8 hown8 hgrow hgat hglt
               have kk : Keep NoB w w8 := (Keep.alloc w (.cells #[.string nm, .string tx] 79) NoB).trans (Keep.grown hgrow (M := fun i => w.heap.size ≤ i) (fun i hi _ => (World.ownsRow.lt HO.out i hi).1)) (fun _ _ h => h) (fun i hi h => by omega)
               have HX8 := Lib.hid (And.intro hown8 kk)
               clear hown8 hgrow hgat hglt kk)
  refine wp_loop_rounds 1 ?_
  rw [rounds_succ]
  go_upto_region 13 with fail
  go_quiet (fail)
  obtain ⟨w9, hw9⟩ : ∃ w9, w9 = w8.drewN nq := ⟨_, rfl⟩
  have k9 : Keep NoB w8 w9 := hw9 ▸ Keep.drewN _ _ _
  rw [← hw9]
  clear hw9
  obtain ⟨d0, d1⟩ := HJ.out _ (HX8.out.2.then k9)
  have hown9 : w9.ownsRow w.heap.size 79 2 (.slice (some ⟨gg, 0, none⟩) 1 cp) 1 [.string nm, .string tx] := by
    obtain ⟨a1, a2⟩ := HX8.out.1
    refine ⟨a1, ?_⟩
    rcases a2 with a2 | ⟨g, cap, cur, hv, hg, hh, r⟩
    · exact .inl a2
    · exact .inr ⟨g, cap, cur, hv, hg, k9.heap hh (fun h => h), r⟩
  obtain ⟨c0, f0, hge⟩ := ownsRow_cell (i := 0) hown9 rfl
  obtain ⟨c1, f1, _⟩ := ownsRow_cell (i := 1) hown9 rfl
  obtain ⟨cur, fz, hcur, hcs⟩ := ownsRow_block hown9
  have hz := setCell_lex (setCell_lex hcur 0 (.string nm)) 1 (.string tx)
  have kst : Keep NoB w ((w9.setCell ⟨gg, 0, none⟩ (.string nm)).setCell ⟨gg, 1, none⟩ (.string tx)) :=
    ((HX8.out.2.then k9).trans ((Keep.setCell (M := (· = gg)) w9 ⟨gg, 0, none⟩ (.string nm) (fun _ => rfl)).trans (Keep.setCell (M := (· = gg)) _ ⟨gg, 1, none⟩ (.string tx) (fun _ => rfl)) (fun _ _ h => h) (fun _ _ h => h)) (fun _ _ h => h) (fun i hi h => by have : i = gg := h; omega))
  have HF := Lib.hid (And.intro hz (And.intro hcs kst))
  clear k9 hown9 hge hz hcs kst hcur
  go_wp2_with fail
  rw [rounds_succ]
  obtain ⟨wz, hwz⟩ : ∃ x, x = (w9.setCell ⟨gg, 0, none⟩ (.string nm)).setCell ⟨gg, 1, none⟩ (.string tx) := ⟨_, rfl⟩
  rw [← hwz] at HF ⊢
  clear hwz c0 f0 c1 f1 d0 d1
  go_wp2_with fail
  refine wp_loop_rounds 2 ?_
  rw [rounds_succ]
  have hc0 : wz.cell? ⟨gg, 0, none⟩ = some (.string nm) := by
    rw [cellIn HF.out.1]
    have := HF.out.2.1
    simp only [List.length_cons, List.length_nil] at this
    rw [Array.getElem?_setIfInBounds_ne (by decide), Array.getElem?_setIfInBounds_self_of_lt (by omega)]
  have hc1 : wz.cell? ⟨gg, 1, none⟩ = some (.string tx) := by
    rw [cellIn HF.out.1]
    have := HF.out.2.1
    simp only [List.length_cons, List.length_nil] at this
    rw [Array.getElem?_setIfInBounds_self_of_lt (by rw [Array.size_setIfInBounds]; omega)]
  have HQ := Lib.hid (show ∀ x, Keep NoB wz x → x.cell? ⟨gg, 0, none⟩ = some (.string nm) ∧ x.cell? ⟨gg, 1, none⟩ = some (.string tx) from fun x kx => ⟨kx.cell hc0 (fun h => h), kx.cell hc1 (fun h => h)⟩)
  have hg1 := frm_size (s := nm) (by omega)
  have hg2 := frm_size (s := tx) (by omega)
  have hs1 : ¬ 9223372036854775807 < (frm nm).size + (frm tx).size := by omega
  clear hc0 hc1
  go_upto_region 21 with fail
  have hK0 : Keep NoB wz wz.drew := Keep.drew _ _
  obtain ⟨q0, q1⟩ := HQ.out _ hK0
  go_region_held3 (fun x => Keep NoB wz x ∧ x.cell? ⟨gg, 0, none⟩ = some (.string nm) ∧ x.cell? ⟨gg, 1, none⟩ = some (.string tx))
    (with_reducible (first
      | exact ⟨kwA, HQ.out _ kwA⟩
      | exact ⟨hK0, HQ.out _ hK0⟩
      | assumption))
    ((go_at_call 42
      refine (framed_c _ (by omega) _).mono ?_
      rintro e w4 ⟨rfl, k4⟩
      have kwA : Keep NoB wz w4 := Keep.then (by go_split_ands; assumption) k4))
  all_goals
    have KA := Lib.hid kwA
    clear kwA k4 hK0 q0 q1 hs1
    go_wp2_with fail
    rw [rounds_succ]
    go_wp2_with fail
    go_ret
    rw [show ∀ a : Str, (⟨#[]⟩ : Str) ++ a = a from fun a => ByteArray.empty_append (b := a)]
    exact ⟨rfl, HF.out.2.2.then KA.out⟩
end Go.Proofs.YtjclpmgfcaadmaaGreatDoor
