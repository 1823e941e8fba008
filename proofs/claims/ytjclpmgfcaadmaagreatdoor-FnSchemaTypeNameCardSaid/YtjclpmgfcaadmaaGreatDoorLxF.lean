/- The schema's parser: no annotations, one identifier, an expected token. -/
import Derived.Test.YtjclpmgfcaadmaaGreatDoorLxE
import Derived.Laws.AppendOwn
namespace Go.Proofs.YtjclpmgfcaadmaaGreatDoor
open Go.RowKit Go.Shelf

theorem PIs.cells {w0 w : World} {A B : Nat} {o : Option Addr} {bb cap : Nat} {s : ByteArray} {p k : Nat} {t : ByteArray} (h : PIs w0 w A B o bb cap s p k t) :
    w.cell? ⟨A, 1, none⟩ = some (.int .i64 k) ∧ w.cell? ⟨A, 6, none⟩ = some (.string t) := by
  obtain ⟨f, l, c, q, hb⟩ := h.blk
  simp [World.cell?, hb]

set_option maxRecDepth 100000 in
set_option maxHeartbeats 4000000 in
theorem pAnn_c {w : World} {A k : Nat} (h : w.cell? ⟨A, 1, none⟩ = some (.int .i64 k)) (hk : k ≠ 3) :
    Calls Tryz.prog 64 #[.pointer (some ⟨A, 0, none⟩)] w fun e w' => e = .returned (.tuple #[.map none, .nilIface]) ∧ w' = w := by
  have h1 : ((k : Int) == 3) = false := beq_false_of_ne (by omega)
  go_enter Tryz.func64, Tryz.ntmps64
  go_wp2_with fail
  refine wp_loop_once ?_
  go_wp2_with fail
  go_ret2
  exact ⟨rfl, rfl⟩
set_option maxRecDepth 100000 in
set_option maxHeartbeats 4000000 in
theorem pExpect_c {w0 w : World} {A B : Nat} {o : Option Addr} {bb cap : Nat} {s : ByteArray} {p k k' q : Nat} {t t' : ByteArray} (h : PIs w0 w A B o bb cap s p k t) (hn : NextIs s p k' t' q) :
    Calls Tryz.prog 94 #[.pointer (some ⟨A, 0, none⟩), .int .i64 k] w fun e w' => e = .returned .nilIface ∧ PIs w0 w' A B o bb cap s q k' t' ∧ Keep (AB A B) w w' := by
  obtain ⟨c1, _⟩ := h.cells
  have HR := Lib.hid (readTok_c h hn)
  clear h hn
  go_enter Tryz.func94, Tryz.ntmps94
  go_wp2_with fail
  refine HR.out.mono ?_
  rintro e w1 ⟨rfl, h1, k1⟩
  have H1 := Lib.hid (And.intro h1 k1)
  clear h1 k1
  go_wp2_with fail
  go_ret
  exact ⟨rfl, H1.out⟩
theorem grown_keep {w w0 w4 : World} {base : Nat} {e : TypeId} {size : Nat} {v : Value} {n : Nat} {xs : List Value} (h : w0.ownsRow base e size v n xs) (hg : w.grownBy w4 v.ownBlock) : Keep (fun k => base ≤ k) w w4 :=
  Keep.grown hg fun i hi _ => by
    obtain ⟨_, ⟨rfl, _⟩ | ⟨g, cap, cur, rfl, hb, _⟩⟩ := h
    · cases hi
    · cases hi; exact hb
theorem owns_some {w : World} {base : Nat} {e : TypeId} {size : Nat} {v : Value} {n : Nat} {xs : List Value} (h : w.ownsRow base e size v (n + 1) xs) : ∃ g cap, v = .slice (some ⟨g, 0, none⟩) (n + 1) cap := by
  obtain ⟨_, ⟨_, h⟩ | ⟨g, cap, cur, rfl, _⟩⟩ := h
  · first | cases h | simp at h
  · exact ⟨g, cap, rfl⟩
theorem ownsRow_at {w : World} {base : Nat} {E : TypeId} {size gg n cap i : Nat} {xs : List Value} {a : Value} (h : w.ownsRow base E size (.slice (some ⟨gg, 0, none⟩) n cap) n xs) (hi : xs[i]? = some a) :
    w.cell? ⟨gg, i, none⟩ = some a := by
  obtain ⟨hl, ⟨h, _⟩ | ⟨g, cap', cur, hv, hb, hh, h1, h2, h3, h4⟩⟩ := h
  · cases h
  · cases hv
    rw [← h4, List.getElem?_take] at hi
    split at hi
    · rw [cellIn hh]; simpa using hi
    · cases hi
theorem infoIdent : (Tryz.prog.info? 86).map (fun i => (i.zero, i.size, i.bytes)) = some (some (.string ⟨#[]⟩), 1, 16) := by kernel_rfl
set_option maxRecDepth 100000 in
set_option maxHeartbeats 4000000 in
theorem pIdents_c {w0 w : World} {A B : Nat} {o : Option Addr} {bb cap : Nat} {s : ByteArray} {p k' q : Nat} {t t' : ByteArray} (h : PIs w0 w A B o bb cap s p 1 t) (hn : NextIs s p k' t' q) (hk : k' ≠ 12) :
    Calls Tryz.prog 133 #[.pointer (some ⟨A, 0, none⟩)] w fun e w' => (∃ b c, e = .returned (.tuple #[.slice (some ⟨b, 0, none⟩) 1 c, .nilIface]) ∧ w.heap.size ≤ b ∧ w'.cell? ⟨b, 0, none⟩ = some (.string t)) ∧ PIs w0 w' A B o bb cap s q k' t' ∧ Keep (AB A B) w w' := by
  obtain ⟨c1, c6⟩ := h.cells
  obtain ⟨iU, hiU, hzU, hsU, hbU⟩ := info_parts infoIdent
  have HU := Lib.hid (And.intro hiU (And.intro hzU (And.intro hsU hbU)))
  have H0 := Lib.hid (And.intro h hn)
  have hAlt := h.ltA
  have hBlt := h.ltB
  clear h hn hiU hzU hsU hbU
  have hown := World.ownsRow_nil w w.heap.size 86 1
  have HO := Lib.hid hown
  clear hown
  go_enter Tryz.func133, Tryz.ntmps133
  go_wp2_with (at_builtin; refine wpList_append_own _ rfl _ _ 84 rfl w.heap.size 86 iU _ 1 16 Tryz.underlying84 HU.out.1 HU.out.2.1 HU.out.2.2.1 HU.out.2.2.2 rfl (by decide) _ _ _ rfl (HO.out.alloc _) ⟨w.heap.size, 0, none⟩ 1 1 [.string t] rfl rfl ?c1 ?c2 ?c3 ?c4 ?c5 ?_)
  case c1 =>
    intro q u hq
    rcases q with _ | q
    · cases hq; exact cellIn (MapKept.heap_alloc w _).1 0
    · cases hq
  case c2 => intro u hu; simp only [List.mem_singleton] at hu; subst hu; rfl
  case c3 => unfold maxLen; omega
  case c4 => omega
  case c5 => rw [World.size_alloc]; omega
  intro v' w2 hown2 hgrow _
  obtain ⟨g, cp, rfl⟩ := owns_some hown2
  have kg := grown_keep HO.out hgrow
  have ka : Keep (fun k => w.heap.size ≤ k) w w2 := (Keep.alloc w (.cells #[.string t] 86) NoB).first kg
  have ka0 : Keep NoB w w2 := ka.mono fun i hi h => by omega
  have hrow := ownsRow_at hown2 (i := 0) rfl
  have h2 := H0.out.1.keep0 ka0
  have HR := Lib.hid (readTok_c h2 H0.out.2)
  have hgl : w.heap.size ≤ g := by
    obtain ⟨_, ⟨h, _⟩ | ⟨g', cap', cur, hv, hb, _⟩⟩ := hown2
    · cases h
    · cases hv; exact hb
  have HG := Lib.hid (And.intro hrow (And.intro ka0 hgl))
  clear hown2 hgrow kg ka ka0 hrow h2 hgl
  go_wp2_with fail
  refine HR.out.mono ?_
  rintro e w3 ⟨rfl, h3, k3⟩
  obtain ⟨d1, _⟩ := h3.cells
  have H3 := Lib.hid (And.intro h3 k3)
  have hk1 : ((k' : Int) == 12) = false := beq_false_of_ne (by omega)
  clear h3 k3
  go_wp2_with fail
  refine wp_loop_once ?_
  go_wp2_with fail
  go_ret2
  refine ⟨⟨_, _, rfl, HG.out.2.2, H3.out.2.cell HG.out.1 ?_⟩, H3.out.1, HG.out.2.1.first H3.out.2⟩
  have := HG.out.2.2
  rintro (e | e)
  · dsimp only at e; omega
  · dsimp only at e; omega
end Go.Proofs.YtjclpmgfcaadmaaGreatDoor
