/- Tk, Ak, Ek: joined. -/
import Derived.Test.YtedgonoeeeiilaaGreatDoorJKey
import Derived.Test.YtedgonoeeeiilaaGreatDoorJCy
import Derived.Test.YtedgonoeeeiilaaGreatDoorJOrd
/- The walk of typeKey on types without records. -/
namespace Go.Proofs.YtedgonoeeeiilaaGreatDoor
open Go.RowKit

def tKey : ATy → Str
  | .str => digS 1 1
  | .long => digS 2 1
  | .bool => digS 3 1
  | .ext s => digS 4 1 ++ frm s
  | .set t => digS 5 1 ++ tKey t
  | .record _ => ⟨#[]⟩
  | .ent s => digS 7 1 ++ frm s
  | .ref s => digS 8 1 ++ frm s
theorem dig1 (k : Nat) (h : k < 10) : (digS k 1).size ≤ 7 := digS_short (by omega)

set_option maxRecDepth 100000 in
set_option maxHeartbeats 4000000 in
theorem typeKey_0 (s : Str) (e a : Sl) (w : World) : Calls Tryz.prog 46 #[tyV 0 s e a] w fun e w' => e = .returned (.string (digS 0 1)) ∧ Keep NoB w w' := by
  obtain ⟨eo, en, ec⟩ := e
  obtain ⟨ao, an, ac⟩ := a
  simp only [tyV]
  have hd := fun x => digits_c 0 1 (by omega) (by omega) x
  go_enter Tryz.func46, Tryz.ntmps46
  go_wp2_with fail
  refine (hd _).mono ?_
  rintro e w1 ⟨rfl, k1⟩
  have K1 := Lib.hid ((Keep.alloc _ _ NoB).then k1)
  have hb := k1.heap (MapKept.heap_alloc w _).1 (NoB.not _)
  have q0 : w1.cell? ⟨w.heap.size, 0, none⟩ = some (.int .i64 0) := by rw [cell_cells hb]; rfl
  clear k1 hb hd
  go_wp2_with fail
  go_ret
  exact ⟨rfl, K1.out⟩
set_option maxRecDepth 100000 in
set_option maxHeartbeats 4000000 in
theorem typeKey_1 (s : Str) (e a : Sl) (w : World) : Calls Tryz.prog 46 #[tyV 1 s e a] w fun e w' => e = .returned (.string (digS 1 1)) ∧ Keep NoB w w' := by
  obtain ⟨eo, en, ec⟩ := e
  obtain ⟨ao, an, ac⟩ := a
  simp only [tyV]
  have hd := fun x => digits_c 1 1 (by omega) (by omega) x
  go_enter Tryz.func46, Tryz.ntmps46
  go_wp2_with fail
  refine (hd _).mono ?_
  rintro e w1 ⟨rfl, k1⟩
  have K1 := Lib.hid ((Keep.alloc _ _ NoB).then k1)
  have hb := k1.heap (MapKept.heap_alloc w _).1 (NoB.not _)
  have q0 : w1.cell? ⟨w.heap.size, 0, none⟩ = some (.int .i64 1) := by rw [cell_cells hb]; rfl
  clear k1 hb hd
  go_wp2_with fail
  go_ret
  exact ⟨rfl, K1.out⟩
set_option maxRecDepth 100000 in
set_option maxHeartbeats 4000000 in
theorem typeKey_2 (s : Str) (e a : Sl) (w : World) : Calls Tryz.prog 46 #[tyV 2 s e a] w fun e w' => e = .returned (.string (digS 2 1)) ∧ Keep NoB w w' := by
  obtain ⟨eo, en, ec⟩ := e
  obtain ⟨ao, an, ac⟩ := a
  simp only [tyV]
  have hd := fun x => digits_c 2 1 (by omega) (by omega) x
  go_enter Tryz.func46, Tryz.ntmps46
  go_wp2_with fail
  refine (hd _).mono ?_
  rintro e w1 ⟨rfl, k1⟩
  have K1 := Lib.hid ((Keep.alloc _ _ NoB).then k1)
  have hb := k1.heap (MapKept.heap_alloc w _).1 (NoB.not _)
  have q0 : w1.cell? ⟨w.heap.size, 0, none⟩ = some (.int .i64 2) := by rw [cell_cells hb]; rfl
  clear k1 hb hd
  go_wp2_with fail
  go_ret
  exact ⟨rfl, K1.out⟩
set_option maxRecDepth 100000 in
set_option maxHeartbeats 4000000 in
theorem typeKey_3 (s : Str) (e a : Sl) (w : World) : Calls Tryz.prog 46 #[tyV 3 s e a] w fun e w' => e = .returned (.string (digS 3 1)) ∧ Keep NoB w w' := by
  obtain ⟨eo, en, ec⟩ := e
  obtain ⟨ao, an, ac⟩ := a
  simp only [tyV]
  have hd := fun x => digits_c 3 1 (by omega) (by omega) x
  go_enter Tryz.func46, Tryz.ntmps46
  go_wp2_with fail
  refine (hd _).mono ?_
  rintro e w1 ⟨rfl, k1⟩
  have K1 := Lib.hid ((Keep.alloc _ _ NoB).then k1)
  have hb := k1.heap (MapKept.heap_alloc w _).1 (NoB.not _)
  have q0 : w1.cell? ⟨w.heap.size, 0, none⟩ = some (.int .i64 3) := by rw [cell_cells hb]; rfl
  clear k1 hb hd
  go_wp2_with fail
  go_ret
  exact ⟨rfl, K1.out⟩
set_option maxRecDepth 100000 in
set_option maxHeartbeats 4000000 in
theorem typeKey_4 (s : Str) (hs : s.size ≤ 500000) (e a : Sl) (w : World) : Calls Tryz.prog 46 #[tyV 4 s e a] w fun e w' => e = .returned (.string (digS 4 1 ++ frm s)) ∧ Keep NoB w w' := by
  obtain ⟨eo, en, ec⟩ := e
  obtain ⟨ao, an, ac⟩ := a
  simp only [tyV]
  have hd := fun x => digits_c 4 1 (by omega) (by omega) x
  have hz : (digS 4 1).size ≤ 7 := dig1 _ (by omega)
  have hf := frm_size (s := s) (by omega)
  go_enter Tryz.func46, Tryz.ntmps46
  go_wp2_with fail
  refine (hd _).mono ?_
  rintro e w1 ⟨rfl, k1⟩
  have K1 := Lib.hid ((Keep.alloc _ _ NoB).then k1)
  have hb := k1.heap (MapKept.heap_alloc w _).1 (NoB.not _)
  have q0 : w1.cell? ⟨w.heap.size, 0, none⟩ = some (.int .i64 4) := by rw [cell_cells hb]; rfl
  have q1 : w1.cell? ⟨w.heap.size, 1, none⟩ = some (.string s) := by rw [cell_cells hb]; rfl
  clear k1 hb hd
  go_wp2_with fail
  refine (framed_c s (by omega) _).mono ?_
  rintro e w2 ⟨rfl, k2⟩
  have K2 := Lib.hid (K1.out.then k2)
  clear k2
  go_wp2_with fail
  go_ret
  exact ⟨rfl, K2.out⟩
set_option maxRecDepth 100000 in
set_option maxHeartbeats 4000000 in
theorem typeKey_7 (s : Str) (hs : s.size ≤ 500000) (e a : Sl) (w : World) : Calls Tryz.prog 46 #[tyV 7 s e a] w fun e w' => e = .returned (.string (digS 7 1 ++ frm s)) ∧ Keep NoB w w' := by
  obtain ⟨eo, en, ec⟩ := e
  obtain ⟨ao, an, ac⟩ := a
  simp only [tyV]
  have hd := fun x => digits_c 7 1 (by omega) (by omega) x
  have hz : (digS 7 1).size ≤ 7 := dig1 _ (by omega)
  have hf := frm_size (s := s) (by omega)
  go_enter Tryz.func46, Tryz.ntmps46
  go_wp2_with fail
  refine (hd _).mono ?_
  rintro e w1 ⟨rfl, k1⟩
  have K1 := Lib.hid ((Keep.alloc _ _ NoB).then k1)
  have hb := k1.heap (MapKept.heap_alloc w _).1 (NoB.not _)
  have q0 : w1.cell? ⟨w.heap.size, 0, none⟩ = some (.int .i64 7) := by rw [cell_cells hb]; rfl
  have q1 : w1.cell? ⟨w.heap.size, 1, none⟩ = some (.string s) := by rw [cell_cells hb]; rfl
  clear k1 hb hd
  go_wp2_with fail
  refine (framed_c s (by omega) _).mono ?_
  rintro e w2 ⟨rfl, k2⟩
  have K2 := Lib.hid (K1.out.then k2)
  clear k2
  go_wp2_with fail
  go_ret
  exact ⟨rfl, K2.out⟩
set_option maxRecDepth 100000 in
set_option maxHeartbeats 4000000 in
theorem typeKey_8 (s : Str) (hs : s.size ≤ 500000) (e a : Sl) (w : World) : Calls Tryz.prog 46 #[tyV 8 s e a] w fun e w' => e = .returned (.string (digS 8 1 ++ frm s)) ∧ Keep NoB w w' := by
  obtain ⟨eo, en, ec⟩ := e
  obtain ⟨ao, an, ac⟩ := a
  simp only [tyV]
  have hd := fun x => digits_c 8 1 (by omega) (by omega) x
  have hz : (digS 8 1).size ≤ 7 := dig1 _ (by omega)
  have hf := frm_size (s := s) (by omega)
  go_enter Tryz.func46, Tryz.ntmps46
  go_wp2_with fail
  refine (hd _).mono ?_
  rintro e w1 ⟨rfl, k1⟩
  have K1 := Lib.hid ((Keep.alloc _ _ NoB).then k1)
  have hb := k1.heap (MapKept.heap_alloc w _).1 (NoB.not _)
  have q0 : w1.cell? ⟨w.heap.size, 0, none⟩ = some (.int .i64 8) := by rw [cell_cells hb]; rfl
  have q1 : w1.cell? ⟨w.heap.size, 1, none⟩ = some (.string s) := by rw [cell_cells hb]; rfl
  clear k1 hb hd
  go_wp2_with fail
  refine (framed_c s (by omega) _).mono ?_
  rintro e w2 ⟨rfl, k2⟩
  have K2 := Lib.hid (K1.out.then k2)
  clear k2
  go_wp2_with fail
  go_ret
  exact ⟨rfl, K2.out⟩

set_option maxRecDepth 100000 in
set_option maxHeartbeats 4000000 in
theorem typeKey_5 (s : Str) (b off c : Nat) (a : Sl) (k' : Int) (s' : Str) (e' a' : Sl) (key : Str) (hz : key.size ≤ 500000) (w : World)
    (hc : CellsAt w b off [.int .i64 k', .string s', slV e', slV a']) (ih : ∀ x, Keep NoB w x → Calls Tryz.prog 46 #[tyV k' s' e' a'] x fun e w' => e = .returned (.string key) ∧ Keep NoB x w') :
    Calls Tryz.prog 46 #[tyV 5 s (some ⟨b, off, none⟩, 1, c) a] w fun e w' => e = .returned (.string (digS 5 1 ++ key)) ∧ Keep NoB w w' := by
  obtain ⟨eo', en', ec'⟩ := e'
  obtain ⟨ao', an', ac'⟩ := a'
  obtain ⟨ao, an, ac⟩ := a
  simp only [tyV, slV] at ih hc ⊢
  have hd := fun x => digits_c 5 1 (by omega) (by omega) x
  have hy : (digS 5 1).size ≤ 7 := dig1 _ (by omega)
  have HI := Lib.hid (And.intro ih hc)
  clear ih hc
  go_enter Tryz.func46, Tryz.ntmps46
  go_wp2_with fail
  refine (hd _).mono ?_
  rintro e w1 ⟨rfl, k1⟩
  have K1 := Lib.hid ((Keep.alloc _ _ NoB).then k1)
  have hb := k1.heap (MapKept.heap_alloc w _).1 (NoB.not _)
  have q0 : w1.cell? ⟨w.heap.size, 0, none⟩ = some (.int .i64 5) := by rw [cell_cells hb]; rfl
  have q2 : w1.cell? ⟨w.heap.size, 2, none⟩ = some (.slice (some ⟨b, off, none⟩) 1 c) := by rw [cell_cells hb]; rfl
  have hcx := HI.out.2.keep K1.out (NoB.not _)
  have r0 := hcx 0 _ rfl
  have r1 := hcx 1 _ rfl
  have r2 := hcx 2 _ rfl
  have r3 := hcx 3 _ rfl
  simp only [Nat.add_zero] at r0
  clear k1 hb hd hcx
  go_wp2_with fail
  refine (HI.out.1 _ K1.out).mono ?_
  rintro e w2 ⟨rfl, k2⟩
  have K2 := Lib.hid (K1.out.then k2)
  clear k2
  go_wp2_with fail
  go_ret
  exact ⟨rfl, K2.out⟩

theorem typeKey_c {t : ATy} (hf : Flat t) : ∀ (w0 : World) (M : Nat → Prop) (v : Value), OTyIs w0 M t v → (tKey t).size ≤ 400000 → ∀ w, Keep NoB w0 w →
    Calls Tryz.prog 46 #[v] w fun e w' => e = .returned (.string (tKey t)) ∧ Keep NoB w w' := by
  induction hf with
  | str => intro w0 M v h _ w _; cases h; exact typeKey_1 _ _ _ w
  | long => intro w0 M v h _ w _; cases h; exact typeKey_2 _ _ _ w
  | bool => intro w0 M v h _ w _; cases h; exact typeKey_3 _ _ _ w
  | ext s =>
    intro w0 M v h hz w _
    cases h
    rw [tKey, ByteArray.size_append] at hz
    have := frm_ge s
    exact typeKey_4 _ (by omega) _ _ w
  | ent s =>
    intro w0 M v h hz w _
    cases h
    rw [tKey, ByteArray.size_append] at hz
    have := frm_ge s
    exact typeKey_7 _ (by omega) _ _ w
  | ref s =>
    intro w0 M v h hz w _
    cases h
    rw [tKey, ByteArray.size_append] at hz
    have := frm_ge s
    exact typeKey_8 _ (by omega) _ _ w
  | set hf ih =>
    intro w0 M v h hz w k
    cases h with
    | set s b off c a k' s' e' a' hM hc ht =>
      rw [tKey, ByteArray.size_append] at hz
      exact typeKey_5 s b off c a k' s' e' a' _ (by omega) w (hc.keep k (NoB.not _)) fun x kx => ih w0 M _ ht (by omega) x (k.then kx)
end Go.Proofs.YtedgonoeeeiilaaGreatDoor
/- The walk of attrsKey on attributes of types without records, in order, each name once. -/
namespace Go.Proofs.YtedgonoeeeiilaaGreatDoor
open Go.RowKit

def markS (q : Bool) : Str := if q then ⟨#[63]⟩ else ⟨#[33]⟩
def attrP (x : Str × ATy × Bool) : Str × Str := (x.1, markS x.2.2 ++ tKey x.2.1)
def aKey (l : List (Str × ATy × Bool)) : Str := catF pairP (l.map attrP)
theorem attrP_fst (l : List (Str × ATy × Bool)) : (l.map attrP).map (·.1) = l.map (·.1) := by
  rw [List.map_map]; rfl
theorem markS_size (q : Bool) : (markS q).size = 1 := by cases q <;> rfl

set_option maxRecDepth 100000 in
set_option maxHeartbeats 16000000 in
theorem attrsKey_c (w0 : World) (M : Nat → Prop) (l : List (Str × ATy × Bool)) (ao : Option Addr) (n c : Nat) (kf : Nat → Int) (sf : Nat → Str) (ef af : Nat → Sl) (hn : n = l.length)
    (hc : l = [] ∨ ∃ b off, ao = some ⟨b, off, none⟩ ∧ ¬ M b ∧ ∀ i k t q, l[i]? = some (k, t, q) → CellsAt w0 b (off + i * 6) [.string k, .bool q, .int .i64 (kf i), .string (sf i), slV (ef i), slV (af i)])
    (ht : ∀ i k t q, l[i]? = some (k, t, q) → OTyIs w0 M t (tyV (kf i) (sf i) (ef i) (af i))) (hf : ∀ x ∈ l, Flat x.2.1) (hs : (l.map (·.1)).Pairwise leS) (hnd : (l.map (·.1)).Nodup)
    (hL : l.length ≤ 1000000) (hB : (aKey l).size ≤ 300000) (w : World) (k0 : Keep NoB w0 w) :
    Calls Tryz.prog 30 #[.slice ao n c] w fun e w' => e = .returned (.string (aKey l)) ∧ Keep NoB w w' := by
  rw [← hn] at hL
  obtain ⟨iU, hiU, hzU, hsU, hbU⟩ := info_parts infoEntry
  have HU := Lib.hid (And.intro hiU (And.intro hzU (And.intro hsU hbU)))
  have HA := Lib.hid (And.intro hn (And.intro hc (And.intro ht (And.intro hf (And.intro hs (And.intro hnd (And.intro hB k0)))))))
  clear hn hc ht hf hs hnd hB k0 hiU hzU hsU hbU
  go_enter Tryz.func30, Tryz.ntmps30
  go_wp2_with fail
  go_loopg [3, 4] n (fun g s i wr => ∃ j : Nat, j + g = n ∧ i = .int .i64 j ∧ RowIs PairC wr w.heap.size 177 2 s ((l.map attrP).take j) ∧ Keep NoB w wr)
  case atStart => exact ⟨0, by omega, rfl, RowIs.nil _ _ _ _ _, Keep.refl _ _⟩
  case round =>
    obtain ⟨j, hj, rfl, hrow, hk⟩ := hrel
    have hlen : ((l.map attrP).take j).length = j := by rw [List.length_take, List.length_map]; have := HA.out.1; omega
    obtain ⟨oo, oc, hsh⟩ := hrow.shape
    rw [hlen] at hsh
    subst hsh
    have HK := Lib.hid (And.intro hrow (And.intro hk hlen))
    clear hrow hk hlen
    by_cases hlt : j < n
    · obtain ⟨hn, hc, ht, hf, hs, hnd, hB, k0⟩ := HA.out
      rcases hc with h0 | ⟨bv, offv, hso, hMv, hcell⟩
      · subst h0
        exact absurd hlt (by rw [hn]; simp)
      subst hso
      have hjl : j < l.length := by omega
      obtain ⟨kj, tj, qj, hp⟩ : ∃ k t q, l[j]? = some (k, t, q) := ⟨_, _, _, List.getElem?_eq_getElem hjl⟩
      have hcs := hcell j kj tj qj hp
      have hty := ht j kj tj qj hp
      have hmem := List.mem_of_getElem? hp
      have hflat : Flat tj := hf _ hmem
      have hsz := Nat.le_trans (catF_mem pairP (l.map attrP) j (attrP (kj, tj, qj)) (by rw [List.getElem?_map, hp]; rfl)) hB
      unfold pairP attrP at hsz
      rw [ByteArray.size_append] at hsz
      have hg1 := frm_ge kj
      have hg2 := frm_ge (markS qj ++ tKey tj)
      rw [ByteArray.size_append, markS_size] at hg2
      have hsz2 : (frm kj).size + (frm (markS qj ++ tKey tj)).size ≤ 300000 := hsz
      obtain ⟨tk, htk⟩ : ∃ tk, tk = tKey tj := ⟨_, rfl⟩
      have hz : tk.size ≤ 300000 := by rw [htk]; omega
      have KW := Lib.hid (k0.then HK.out.2.1)
      have k0X := Lib.hid k0
      obtain ⟨kk, hkk⟩ : ∃ kk, kk = kf j := ⟨_, rfl⟩
      obtain ⟨ss, hss⟩ : ∃ ss, ss = sf j := ⟨_, rfl⟩
      obtain ⟨⟨eo, en, ec⟩, hee⟩ : ∃ ee, ee = ef j := ⟨_, rfl⟩
      obtain ⟨⟨lo, ln, lc⟩, haa⟩ : ∃ aa, aa = af j := ⟨_, rfl⟩
      rw [← hkk, ← hss, ← hee, ← haa] at hcs hty
      have HC := Lib.hid (show ∀ x, Keep NoB w0 x → x.cell? ⟨bv, offv + j * 6, none⟩ = some (.string kj) ∧ x.cell? ⟨bv, offv + j * 6 + 1, none⟩ = some (.bool qj) ∧ x.cell? ⟨bv, offv + j * 6 + 2, none⟩ = some (.int .i64 kk) ∧ x.cell? ⟨bv, offv + j * 6 + 3, none⟩ = some (.string ss) ∧ x.cell? ⟨bv, offv + j * 6 + 4, none⟩ = some (.slice eo en ec) ∧ x.cell? ⟨bv, offv + j * 6 + 5, none⟩ = some (.slice lo ln lc) from fun x kx => by
        have hc := hcs.keep kx (NoB.not _)
        exact ⟨hc 0 _ rfl, hc 1 _ rfl, hc 2 _ rfl, hc 3 _ rfl, hc 4 _ rfl, hc 5 _ rfl⟩)
      have HT := Lib.hid (show ∀ x, Keep NoB w0 x → Calls Tryz.prog 46 #[.agg #[.int .i64 kk, .string ss, .slice eo en ec, .slice lo ln lc]] x fun e w' => e = .returned (.string tk) ∧ Keep NoB x w' from fun x kx => by
        rw [htk]
        exact typeKey_c hflat w0 M _ hty (by omega) x kx)
      have HP := Lib.hid (And.intro hp htk)
      have HS := Lib.hid (show ∀ x, Keep NoB w0 x → x.cell? ⟨bv, offv + j * 6, none⟩ = some (.string kj) ∧ x.cell? ⟨bv, offv + j * 6 + 2, none⟩ = some (.int .i64 kk) ∧ x.cell? ⟨bv, offv + j * 6 + 3, none⟩ = some (.string ss) ∧ x.cell? ⟨bv, offv + j * 6 + 4, none⟩ = some (.slice eo en ec) ∧ x.cell? ⟨bv, offv + j * 6 + 5, none⟩ = some (.slice lo ln lc) from fun x kx => by
        obtain ⟨q0, _, q2, q3, q4, q5⟩ := HC.out x kx
        exact ⟨q0, q2, q3, q4, q5⟩)
      clear hn ht hf hs hnd hB k0 hMv hcell hjl hcs hty hmem hflat hsz hg1 hg2 hsz2 hp htk hkk hss hee haa
      have hs1 : ¬ 9223372036854775807 < 1 + tk.size := by omega
      have hs2 : ¬ 9223372036854775807 < (⟨#[33]⟩ : Str).size + tk.size := by have : (⟨#[33]⟩ : Str).size = 1 := rfl; omega
      have hs3 : ¬ 9223372036854775807 < (⟨#[63]⟩ : Str).size + tk.size := by have : (⟨#[63]⟩ : Str).size = 1 := rfl; omega
      obtain ⟨q0, q1, q2, q3, q4, q5⟩ := HC.out _ KW.out
      obtain ⟨mk, hmk⟩ : ∃ mk, mk = markS qj := ⟨_, rfl⟩
      have HMK := Lib.hid hmk
      cases qj
      · go_upto_region 8 with fail
        obtain ⟨q0, q1, q2, q3, q4, q5⟩ := HC.out _ (KW.out.then (Keep.drew _ _))
        go_region_held3 (fun x => x.cell? ⟨bv, offv + j * 6, none⟩ = some (.string kj) ∧ x.cell? ⟨bv, offv + j * 6 + 2, none⟩ = some (.int .i64 kk) ∧ x.cell? ⟨bv, offv + j * 6 + 3, none⟩ = some (.string ss) ∧ x.cell? ⟨bv, offv + j * 6 + 4, none⟩ = some (.slice eo en ec) ∧ x.cell? ⟨bv, offv + j * 6 + 5, none⟩ = some (.slice lo ln lc))
          (first | exact ⟨q0, q2, q3, q4, q5⟩ | exact HS.out _ HX.out.1 | exact HS.out _ (((KW.out.then (Keep.drew _ _)).then k4).then (Keep.alloc _ _ _)) | exact HS.out _ ((KW.out.then (Keep.drew _ _)).then k4))
          ((first
            | (go_at_call 46; refine (HT.out _ (KW.out.then (Keep.drew _ _))).mono ?_; rintro e w4 ⟨rfl, k4⟩)
            | (obtain ⟨xs, hown, hpush⟩ := ((HK.out.1.keep0 PairC.keeps ((Keep.drew _ _).then k4)).keep0 PairC.keeps (Keep.alloc w4 (.cells #[.string kj, .string ((⟨#[33]⟩ : Str) ++ tk)] 177) NoB)).opened PairC.keeps
               refine step_append_lies _ (by rfl) _ _ _ (by rfl) w.heap.size 177 iU _ 2 32 Tryz.underlying175 HU.out.1 HU.out.2.1 HU.out.2.2.1 HU.out.2.2.2 rfl (by omega) _ _ xs (by rfl) hown
                 ⟨w4.heap.size, 0, none⟩ 1 1 [.string kj, .string ((⟨#[33]⟩ : Str) ++ tk)] (by rfl) (by rfl) (World.news_of_block (cs := #[.string kj, .string ((⟨#[33]⟩ : Str) ++ tk)]) (t := 177) (fr := (0, 0)) (heap_alloc_new w4 _)) (by simp [Value.oneCell'])
                 (by omega) (by rw [HK.out.2.2]; unfold maxLen; omega) (by rw [HK.out.2.2]; omega) (by have h1 := HK.out.2.1.size; have h2 := k4.size; simp at h2; simp; omega) (w4.heap.size + 1) (by simp) ?_
               intro gg cap w5 hown5 hgrow hgat hglt
               obtain ⟨hr5, hk5⟩ := hpush gg cap w5 (kj, (⟨#[33]⟩ : Str) ++ tk) [.string kj, .string ((⟨#[33]⟩ : Str) ++ tk)] rfl rfl hown5 hgrow (by simpa using hgat)
               have kk5 := (((HK.out.2.1.then (Keep.drew _ _)).then k4).then (Keep.alloc _ _ _)).trans hk5 (M'' := NoB) (fun _ _ h => h) (fun i hi h => by have := (HK.out.1.lt i h).1; omega)
               have HX := Lib.hid (And.intro (k0X.out.then kk5) (And.intro kk5 hr5))
               clear hr5 hk5 kk5 hown5 hgrow hgat hglt hown hpush k4)))
        all_goals
          clear q0 q1 q2 q3 q4 q5 hs1 hs2 hs3
          go_wp2_with fail
          go_roundg (gk - 1)
          case measure => omega
          case rel =>
            obtain ⟨_, kk5, hr5⟩ := HX.out
            refine ⟨j + 1, by omega, by go_num, ?_, kk5⟩
            obtain ⟨hp, htk⟩ := HP.out
            obtain ⟨hjl, hpe⟩ := List.getElem?_eq_some_iff.1 hp
            have e1 : attrP (kj, tj, false) = (kj, ⟨#[33]⟩ ++ tk) := by rw [htk]; rfl
            have e2 : min j l.length = j := by have := HA.out.1; omega
            rw [List.take_succ_eq_append_getElem (by rw [List.length_map]; exact hjl), List.getElem_map, hpe, e1, e2]
            rw [HK.out.2.2] at hr5
            exact hr5
      · go_upto_region 8 with fail
        obtain ⟨q0, q1, q2, q3, q4, q5⟩ := HC.out _ (KW.out.then (Keep.drew _ _))
        go_region_held3 (fun x => x.cell? ⟨bv, offv + j * 6, none⟩ = some (.string kj) ∧ x.cell? ⟨bv, offv + j * 6 + 2, none⟩ = some (.int .i64 kk) ∧ x.cell? ⟨bv, offv + j * 6 + 3, none⟩ = some (.string ss) ∧ x.cell? ⟨bv, offv + j * 6 + 4, none⟩ = some (.slice eo en ec) ∧ x.cell? ⟨bv, offv + j * 6 + 5, none⟩ = some (.slice lo ln lc))
          (first | exact ⟨q0, q2, q3, q4, q5⟩ | exact HS.out _ HX.out.1 | exact HS.out _ (((KW.out.then (Keep.drew _ _)).then k4).then (Keep.alloc _ _ _)) | exact HS.out _ ((KW.out.then (Keep.drew _ _)).then k4))
          ((first
            | (go_at_call 46; refine (HT.out _ (KW.out.then (Keep.drew _ _))).mono ?_; rintro e w4 ⟨rfl, k4⟩)
            | (obtain ⟨xs, hown, hpush⟩ := ((HK.out.1.keep0 PairC.keeps ((Keep.drew _ _).then k4)).keep0 PairC.keeps (Keep.alloc w4 (.cells #[.string kj, .string ((⟨#[63]⟩ : Str) ++ tk)] 177) NoB)).opened PairC.keeps
               refine step_append_lies _ (by rfl) _ _ _ (by rfl) w.heap.size 177 iU _ 2 32 Tryz.underlying175 HU.out.1 HU.out.2.1 HU.out.2.2.1 HU.out.2.2.2 rfl (by omega) _ _ xs (by rfl) hown
                 ⟨w4.heap.size, 0, none⟩ 1 1 [.string kj, .string ((⟨#[63]⟩ : Str) ++ tk)] (by rfl) (by rfl) (World.news_of_block (cs := #[.string kj, .string ((⟨#[63]⟩ : Str) ++ tk)]) (t := 177) (fr := (0, 0)) (heap_alloc_new w4 _)) (by simp [Value.oneCell'])
                 (by omega) (by rw [HK.out.2.2]; unfold maxLen; omega) (by rw [HK.out.2.2]; omega) (by have h1 := HK.out.2.1.size; have h2 := k4.size; simp at h2; simp; omega) (w4.heap.size + 1) (by simp) ?_
               intro gg cap w5 hown5 hgrow hgat hglt
               obtain ⟨hr5, hk5⟩ := hpush gg cap w5 (kj, (⟨#[63]⟩ : Str) ++ tk) [.string kj, .string ((⟨#[63]⟩ : Str) ++ tk)] rfl rfl hown5 hgrow (by simpa using hgat)
               have kk5 := (((HK.out.2.1.then (Keep.drew _ _)).then k4).then (Keep.alloc _ _ _)).trans hk5 (M'' := NoB) (fun _ _ h => h) (fun i hi h => by have := (HK.out.1.lt i h).1; omega)
               have HX := Lib.hid (And.intro (k0X.out.then kk5) (And.intro kk5 hr5))
               clear hr5 hk5 kk5 hown5 hgrow hgat hglt hown hpush k4)))
        all_goals
          clear q0 q1 q2 q3 q4 q5 hs1 hs2 hs3
          go_wp2_with fail
          go_roundg (gk - 1)
          case measure => omega
          case rel =>
            obtain ⟨_, kk5, hr5⟩ := HX.out
            refine ⟨j + 1, by omega, by go_num, ?_, kk5⟩
            obtain ⟨hp, htk⟩ := HP.out
            obtain ⟨hjl, hpe⟩ := List.getElem?_eq_some_iff.1 hp
            have e1 : attrP (kj, tj, true) = (kj, ⟨#[63]⟩ ++ tk) := by rw [htk]; rfl
            have e2 : min j l.length = j := by have := HA.out.1; omega
            rw [List.take_succ_eq_append_getElem (by rw [List.length_map]; exact hjl), List.getElem_map, hpe, e1, e2]
            rw [HK.out.2.2] at hr5
            exact hr5
    · have hjm : j = n := by omega
      subst hjm
      obtain ⟨hn, hc, ht, hf, hs, hnd, hB, k0⟩ := HA.out
      have e : (l.map attrP).take j = l.map attrP := List.take_of_length_le (by rw [List.length_map]; omega)
      have hrow := HK.out.1
      rw [e] at hrow
      obtain ⟨⟨so', sn', sc'⟩, hsv, hat⟩ := hrow.at PairC.keeps (M := NoB) (fun _ h => h.elim)
      simp only [slV, Value.slice.injEq] at hsv
      obtain ⟨rfl, rfl, rfl⟩ := hsv
      have HO := Lib.hid (fun x (kx : Keep NoB wr x) => ordering_c wr NoB (l.map attrP) oo j oc hat (by rw [attrP_fst]; exact hs) (by rw [attrP_fst]; exact hnd) (by rw [List.length_map]; omega) (Nat.le_trans hB (by decide)) x kx)
      clear hn hc ht hf hs hnd hB k0 e hrow hat
      go_wp2_with fail
      refine (HO.out _ (Keep.refl _ _)).mono ?_
      rintro e w2 ⟨rfl, k2⟩
      have K2 := Lib.hid k2
      clear k2
      go_wp2_with fail
      go_ret
      exact ⟨rfl, HK.out.2.1.then K2.out⟩
end Go.Proofs.YtedgonoeeeiilaaGreatDoor
/- The walk of entityKey on entity types whose attributes and tags are types without records, the attributes in order, each name once. -/
namespace Go.Proofs.YtedgonoeeeiilaaGreatDoor
open Go.RowKit

def tagS : Option ATy → Str
  | none => ⟨#[]⟩
  | some t => tKey t
def eK0 (e : IEnt) : Str := namesK e.parents ++ frm (aKey e.attrs) ++ flagS e.tags.isSome
def eK (e : IEnt) : Str := eK0 e ++ tagS e.tags
/-- what is asked of an entity type -/
structure EntFlat (e : IEnt) : Prop where
  pL : e.parents.length ≤ 1000000
  pB : (catK e.parents).size ≤ 100000
  fl : ∀ x ∈ e.attrs, Flat x.2.1
  srt : (e.attrs.map (·.1)).Pairwise leS
  nod : (e.attrs.map (·.1)).Nodup
  aL : e.attrs.length ≤ 1000000
  aB : (aKey e.attrs).size ≤ 100000
  tg : ∀ t, e.tags = some t → Flat t ∧ (tKey t).size ≤ 100000
theorem flagS_size (b : Bool) : (flagS b).size = 1 := by cases b <;> rfl
theorem attrs_told {w : World} {M : Nat → Prop} {l : List (Str × ATy × Bool)} {ao : Option Addr} {n c : Nat} (h : ∀ s e', OTyIs w M (.record l) (tyV 6 s e' (ao, n, c))) :
    n = l.length ∧ ∃ (kf : Nat → Int) (sf : Nat → Str) (ef af : Nat → Sl), (l = [] ∨ ∃ b off, ao = some ⟨b, off, none⟩ ∧ ¬ M b ∧ ∀ i k t q, l[i]? = some (k, t, q) → CellsAt w b (off + i * 6) [.string k, .bool q, .int .i64 (kf i), .string (sf i), slV (ef i), slV (af i)]) ∧
      (∀ i k t q, l[i]? = some (k, t, q) → OTyIs w M t (tyV (kf i) (sf i) (ef i) (af i))) := by
  have h := h ⟨#[]⟩ (none, 0, 0)
  generalize hv : tyV 6 ⟨#[]⟩ (none, 0, 0) (ao, n, c) = v at h
  cases h with
  | record s e ao' c' kf sf ef af hc ht =>
    simp only [Value.agg.injEq, Array.mk.injEq, List.cons.injEq, Value.slice.injEq, and_true, true_and] at hv
    obtain ⟨_, _, h3, h4, h5⟩ := hv
    subst h3
    exact ⟨h4, kf, sf, ef, af, hc, ht⟩

set_option maxRecDepth 100000 in
set_option maxHeartbeats 16000000 in
theorem entityKey_c (w0 : World) (M : Nat → Prop) (nm : Str) (e : IEnt) (ps ats : Sl) (k : Int) (s : Str) (el al : Sl) (ok : EntFlat e) (h : OEntIs w0 M e ps ats k s el al) (w : World) (k0 : Keep NoB w0 w) :
    Calls Tryz.prog 26 #[.agg #[.string nm, slV ps, slV ats, .bool e.tags.isSome, .int .i64 k, .string s, slV el, slV al]] w fun en w' => en = .returned (.string (eK e)) ∧ Keep NoB w w' := by
  obtain ⟨po, pn, pc⟩ := ps
  obtain ⟨ao, an, ac⟩ := ats
  obtain ⟨eo, en, ec⟩ := el
  obtain ⟨lo, ln, lc⟩ := al
  simp only [slV]
  obtain ⟨hn, kf, sf, ef, af, hc, ht⟩ := attrs_told h.att
  have hpar : StrsAt w0 M e.parents (.slice po pn pc) := h.par
  obtain ⟨tb, htb⟩ : ∃ tb, tb = e.tags.isSome := ⟨_, rfl⟩
  obtain ⟨nk, hnk⟩ : ∃ nk, nk = namesK e.parents := ⟨_, rfl⟩
  obtain ⟨ak, hak⟩ : ∃ ak, ak = aKey e.attrs := ⟨_, rfl⟩
  have hB := ok.aB
  rw [← hak] at hB
  have hnz : nk.size ≤ 200000 := by
    have h1 := ok.pB
    have h2 := frm_size (s := catK e.parents) (by omega)
    rw [hnk]; unfold namesK; omega
  have hfz : (frm ak).size ≤ 200000 := by have := frm_size (s := ak) (by omega); omega
  have hgz : (flagS tb).size = 1 := flagS_size _
  have HN := Lib.hid (show ∀ x, Keep NoB w x → Calls Tryz.prog 27 #[.slice po pn pc] x fun e w' => e = .returned (.string nk) ∧ Keep NoB x w' from fun x kx => by
    rw [hnk]; exact namesKey_c w0 M e.parents po pn pc hpar ok.pL (Nat.le_trans ok.pB (by decide)) x (k0.then kx))
  have HAK := Lib.hid (show ∀ x, Keep NoB w x → Calls Tryz.prog 30 #[.slice ao an ac] x fun e w' => e = .returned (.string ak) ∧ Keep NoB x w' from fun x kx => by
    rw [hak]; exact attrsKey_c w0 M e.attrs ao an ac kf sf ef af hn hc ht ok.fl ok.srt ok.nod ok.aL (Nat.le_trans ok.aB (by decide)) x (k0.then kx))
  have HT := Lib.hid (show ∀ t, e.tags = some t → ∀ x, Keep NoB w x → Calls Tryz.prog 46 #[.agg #[.int .i64 k, .string s, .slice eo en ec, .slice lo ln lc]] x fun e w' => e = .returned (.string (tKey t)) ∧ Keep NoB x w' from fun t ht' x kx =>
    typeKey_c (ok.tg t ht').1 w0 M _ (h.tag t ht') (Nat.le_trans (ok.tg t ht').2 (by decide)) x (k0.then kx))
  obtain ⟨wb, hwb⟩ : ∃ wb, wb = w.alloc (.cells #[.string nm, .slice po pn pc, .slice ao an ac, .bool tb, .int .i64 k, .string s, .slice eo en ec, .slice lo ln lc] 53) := ⟨_, rfl⟩
  have kb : Keep NoB w wb := hwb ▸ Keep.alloc _ _ _
  have hbb : wb.heap[w.heap.size]? = some (.cells #[.string nm, .slice po pn pc, .slice ao an ac, .bool tb, .int .i64 k, .string s, .slice eo en ec, .slice lo ln lc] 53 (0, 0)) := hwb ▸ (MapKept.heap_alloc w _).1
  have HX := Lib.hid (show ∀ x, Keep NoB wb x → x.cell? ⟨w.heap.size, 1, none⟩ = some (.slice po pn pc) ∧ x.cell? ⟨w.heap.size, 2, none⟩ = some (.slice ao an ac) ∧ x.cell? ⟨w.heap.size, 3, none⟩ = some (.bool tb) ∧ x.cell? ⟨w.heap.size, 4, none⟩ = some (.int .i64 k) ∧ x.cell? ⟨w.heap.size, 5, none⟩ = some (.string s) ∧ x.cell? ⟨w.heap.size, 6, none⟩ = some (.slice eo en ec) ∧ x.cell? ⟨w.heap.size, 7, none⟩ = some (.slice lo ln lc) from fun x kx => by
    have hbx := kx.heap hbb (NoB.not _)
    exact ⟨by rw [cell_cells hbx]; rfl, by rw [cell_cells hbx]; rfl, by rw [cell_cells hbx]; rfl, by rw [cell_cells hbx]; rfl, by rw [cell_cells hbx]; rfl, by rw [cell_cells hbx]; rfl, by rw [cell_cells hbx]; rfl⟩)
  have HA := Lib.hid (And.intro htb (And.intro hnk (And.intro hak kb)))
  have HZ := Lib.hid (show ∀ t, e.tags = some t → (tKey t).size ≤ 100000 from fun t ht' => (ok.tg t ht').2)
  rw [← htb]
  clear htb hnk hak hn hc ht hpar h k0 kb hbb ok
  have hs1 : ¬ 9223372036854775807 < nk.size + (frm ak).size := by omega
  have hs2 : ¬ 9223372036854775807 < nk.size + (frm ak).size + (flagS tb).size := by omega
  have hs3 : ¬ 9223372036854775807 < nk.size + (frm ak).size + 1 := by omega
  go_enter Tryz.func26, Tryz.ntmps26
  go_upto_region 1 with fail
  rw [← hwb]
  clear hwb
  have hK0 : Keep NoB wb wb.drew := Keep.drew _ _
  have hq := HX.out _ hK0
  obtain ⟨q1, q2, q3, q4, q5, q6, q7⟩ := hq
  go_region_held3 (fun x => Keep NoB wb x ∧ x.cell? ⟨w.heap.size, 1, none⟩ = some (.slice po pn pc) ∧ x.cell? ⟨w.heap.size, 2, none⟩ = some (.slice ao an ac) ∧ x.cell? ⟨w.heap.size, 3, none⟩ = some (.bool tb) ∧ x.cell? ⟨w.heap.size, 4, none⟩ = some (.int .i64 k) ∧ x.cell? ⟨w.heap.size, 5, none⟩ = some (.string s) ∧ x.cell? ⟨w.heap.size, 6, none⟩ = some (.slice eo en ec) ∧ x.cell? ⟨w.heap.size, 7, none⟩ = some (.slice lo ln lc))
    (with_reducible (first
      | exact ⟨kwA, HX.out _ kwA⟩
      | exact ⟨hK0, HX.out _ hK0⟩
      | assumption))
    ((first
      | (go_at_call 27
         refine (HN.out _ (HA.out.2.2.2.then (by go_split_ands; assumption))).mono ?_
         rintro e w4 ⟨rfl, k4⟩
         have kwA : Keep NoB wb w4 := Keep.then (by go_split_ands; assumption) k4)
      | (go_at_call 30
         refine (HAK.out _ (HA.out.2.2.2.then (by go_split_ands; assumption))).mono ?_
         rintro e w4 ⟨rfl, k4⟩
         have kwA : Keep NoB wb w4 := Keep.then (by go_split_ands; assumption) k4)
      | (go_at_call 25
         refine (framed_c _ (by omega) _).mono ?_
         rintro e w4 ⟨rfl, k4⟩
         have kwA : Keep NoB wb w4 := Keep.then (by go_split_ands; assumption) k4)
      | (go_at_call 29
         refine (flag_c tb _).mono ?_
         rintro e w4 ⟨rfl, hw4⟩
         subst hw4
         have kwA : Keep NoB wb w4 := (by go_split_ands; assumption))))
  have KA := Lib.hid kwA
  obtain ⟨G, hG⟩ : ∃ G, G = nk ++ frm ak ++ flagS tb := ⟨_, rfl⟩
  have hGz : G.size ≤ 500000 := by rw [hG, ByteArray.size_append, ByteArray.size_append]; omega
  rw [← hG]
  have HG := Lib.hid hG
  obtain ⟨r1, r2, r3, r4, r5, r6, r7⟩ := HX.out _ KA.out
  clear kwA k4 hK0 q1 q2 q3 q4 q5 q6 q7 hs1 hs2 hs3 hB hnz hfz hgz hG
  cases tb
  · go_wp2_with fail
    go_ret
    have ht : e.tags = none := by
      have h1 := HA.out.1
      cases h : e.tags with
      | none => rfl
      | some t => rw [h] at h1; cases h1
    refine ⟨?_, HA.out.2.2.2.then KA.out⟩
    unfold eK eK0 tagS
    rw [HG.out, HA.out.2.1, HA.out.2.2.1, ht]
    simp only [Option.isSome_none]
    rw [show ∀ a : Str, a ++ (⟨#[]⟩ : Str) = a from fun a => ByteArray.append_empty (b := a)]
    rfl
  · obtain ⟨t, ht⟩ : ∃ t, e.tags = some t := by
      have h1 := HA.out.1
      cases h : e.tags with
      | none => rw [h] at h1; cases h1
      | some t => exact ⟨t, rfl⟩
    have HTT := Lib.hid (HT.out t ht)
    have htz := HZ.out t ht
    obtain ⟨tk, htk⟩ : ∃ tk, tk = tKey t := ⟨_, rfl⟩
    rw [← htk] at HTT htz
    have HQ := Lib.hid (And.intro ht htk)
    clear ht htk
    go_wp2_with fail
    refine (HTT.out _ (HA.out.2.2.2.then KA.out)).mono ?_
    rintro e w5 ⟨rfl, k5⟩
    have K5 := Lib.hid k5
    clear k5
    go_wp2_with fail
    go_ret
    refine ⟨?_, (HA.out.2.2.2.then KA.out).then K5.out⟩
    unfold eK eK0 tagS
    rw [HG.out, HA.out.2.1, HA.out.2.2.1, HQ.out.1, HQ.out.2]
    rfl
/-- What the walk of resolvedKey asks. -/
theorem entKeys {w : World} {M : Nat → Prop} {lE : List (Str × IEnt)} (h : ∀ p ∈ lE, EntFlat p.2) : EntKeys w M eK lE :=
  fun p hp ps ats k s el al ho x kx => entityKey_c w M p.1 p.2 ps ats k s el al (h p hp) ho x kx
end Go.Proofs.YtedgonoeeeiilaaGreatDoor
