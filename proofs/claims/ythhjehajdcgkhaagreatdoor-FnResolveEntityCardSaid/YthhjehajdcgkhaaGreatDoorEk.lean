/- The walk of entityKey on entity types whose attributes and tags are types without records, the attributes in order, each name once. -/
import Derived.Test.YthhjehajdcgkhaaGreatDoorAk
import Derived.Test.YthhjehajdcgkhaaGreatDoorRk
namespace Go.Proofs.YthhjehajdcgkhaaGreatDoor
open Go.RowKit

def tagS : Option ATy → Str
  | none => ⟨#[]⟩
  | some t => tKey t
def eK0 (e : IEnt) : Str := namesK e.parents ++ frm (aKey e.attrs) ++ flagS e.tags.isSome
def eK (e : IEnt) : Str := eK0 e ++ tagS e.tags
/-- what is asked of an entity type -/
structure EntFlat (e : IEnt) : Prop where
  pL : e.parents.length ≤ 1000000
  pB : (catK e.parents).size ≤ 100000
  fl : ∀ x ∈ e.attrs, Flat x.2.1
  srt : (e.attrs.map (·.1)).Pairwise leS
  nod : (e.attrs.map (·.1)).Nodup
  aL : e.attrs.length ≤ 1000000
  aB : (aKey e.attrs).size ≤ 100000
  tg : ∀ t, e.tags = some t → Flat t ∧ (tKey t).size ≤ 100000
theorem flagS_size (b : Bool) : (flagS b).size = 1 := by cases b <;> rfl
theorem attrs_told {w : World} {M : Nat → Prop} {l : List (Str × ATy × Bool)} {ao : Option Addr} {n c : Nat} (h : ∀ s e', OTyIs w M (.record l) (tyV 6 s e' (ao, n, c))) :
    n = l.length ∧ ∃ (kf : Nat → Int) (sf : Nat → Str) (ef af : Nat → Sl), (l = [] ∨ ∃ b off, ao = some ⟨b, off, none⟩ ∧ ¬ M b ∧ ∀ i k t q, l[i]? = some (k, t, q) → CellsAt w b (off + i * 6) [.string k, .bool q, .int .i64 (kf i), .string (sf i), slV (ef i), slV (af i)]) ∧
      (∀ i k t q, l[i]? = some (k, t, q) → OTyIs w M t (tyV (kf i) (sf i) (ef i) (af i))) := by
  have h := h ⟨#[]⟩ (none, 0, 0)
  generalize hv : tyV 6 ⟨#[]⟩ (none, 0, 0) (ao, n, c) = v at h
  cases h with
  | record s e ao' c' kf sf ef af hc ht =>
    simp only [Value.agg.injEq, Array.mk.injEq, List.cons.injEq, Value.slice.injEq, and_true, true_and] at hv
    obtain ⟨_, _, h3, h4, h5⟩ := hv
    subst h3
    exact ⟨h4, kf, sf, ef, af, hc, ht⟩

set_option maxRecDepth 100000 in
set_option maxHeartbeats 16000000 in
theorem entityKey_c (w0 : World) (M : Nat → Prop) (nm : Str) (e : IEnt) (ps ats : Sl) (k : Int) (s : Str) (el al : Sl) (ok : EntFlat e) (h : OEntIs w0 M e ps ats k s el al) (w : World) (k0 : Keep NoB w0 w) :
    Calls Tryz.prog 30 #[.agg #[.string nm, slV ps, slV ats, .bool e.tags.isSome, .int .i64 k, .string s, slV el, slV al]] w fun en w' => en = .returned (.string (eK e)) ∧ Keep NoB w w' := by
  obtain ⟨po, pn, pc⟩ := ps
  obtain ⟨ao, an, ac⟩ := ats
  obtain ⟨eo, en, ec⟩ := el
  obtain ⟨lo, ln, lc⟩ := al
  simp only [slV]
  obtain ⟨hn, kf, sf, ef, af, hc, ht⟩ := attrs_told h.att
  have hpar : StrsAt w0 M e.parents (.slice po pn pc) := h.par
  obtain ⟨tb, htb⟩ : ∃ tb, tb = e.tags.isSome := ⟨_, rfl⟩
  obtain ⟨nk, hnk⟩ : ∃ nk, nk = namesK e.parents := ⟨_, rfl⟩
  obtain ⟨ak, hak⟩ : ∃ ak, ak = aKey e.attrs := ⟨_, rfl⟩
  have hB := ok.aB
  rw [← hak] at hB
  have hnz : nk.size ≤ 200000 := by
    have h1 := ok.pB
    have h2 := frm_size (s := catK e.parents) (by omega)
    rw [hnk]; unfold namesK; omega
  have hfz : (frm ak).size ≤ 200000 := by have := frm_size (s := ak) (by omega); omega
  have hgz : (flagS tb).size = 1 := flagS_size _
  have HN := Lib.hid (show ∀ x, Keep NoB w x → Calls Tryz.prog 31 #[.slice po pn pc] x fun e w' => e = .returned (.string nk) ∧ Keep NoB x w' from fun x kx => by
    rw [hnk]; exact namesKey_c w0 M e.parents po pn pc hpar ok.pL (Nat.le_trans ok.pB (by decide)) x (k0.then kx))
  have HAK := Lib.hid (show ∀ x, Keep NoB w x → Calls Tryz.prog 34 #[.slice ao an ac] x fun e w' => e = .returned (.string ak) ∧ Keep NoB x w' from fun x kx => by
    rw [hak]; exact attrsKey_c w0 M e.attrs ao an ac kf sf ef af hn hc ht ok.fl ok.srt ok.nod ok.aL (Nat.le_trans ok.aB (by decide)) x (k0.then kx))
  have HT := Lib.hid (show ∀ t, e.tags = some t → ∀ x, Keep NoB w x → Calls Tryz.prog 50 #[.agg #[.int .i64 k, .string s, .slice eo en ec, .slice lo ln lc]] x fun e w' => e = .returned (.string (tKey t)) ∧ Keep NoB x w' from fun t ht' x kx =>
    typeKey_c (ok.tg t ht').1 w0 M _ (h.tag t ht') (Nat.le_trans (ok.tg t ht').2 (by decide)) x (k0.then kx))
  obtain ⟨wb, hwb⟩ : ∃ wb, wb = w.alloc (.cells #[.string nm, .slice po pn pc, .slice ao an ac, .bool tb, .int .i64 k, .string s, .slice eo en ec, .slice lo ln lc] 35) := ⟨_, rfl⟩
  have kb : Keep NoB w wb := hwb ▸ Keep.alloc _ _ _
  have hbb : wb.heap[w.heap.size]? = some (.cells #[.string nm, .slice po pn pc, .slice ao an ac, .bool tb, .int .i64 k, .string s, .slice eo en ec, .slice lo ln lc] 35 (0, 0)) := hwb ▸ (MapKept.heap_alloc w _).1
  have HX := Lib.hid (show ∀ x, Keep NoB wb x → x.cell? ⟨w.heap.size, 1, none⟩ = some (.slice po pn pc) ∧ x.cell? ⟨w.heap.size, 2, none⟩ = some (.slice ao an ac) ∧ x.cell? ⟨w.heap.size, 3, none⟩ = some (.bool tb) ∧ x.cell? ⟨w.heap.size, 4, none⟩ = some (.int .i64 k) ∧ x.cell? ⟨w.heap.size, 5, none⟩ = some (.string s) ∧ x.cell? ⟨w.heap.size, 6, none⟩ = some (.slice eo en ec) ∧ x.cell? ⟨w.heap.size, 7, none⟩ = some (.slice lo ln lc) from fun x kx => by
    have hbx := kx.heap hbb (NoB.not _)
    exact ⟨by rw [cell_cells hbx]; rfl, by rw [cell_cells hbx]; rfl, by rw [cell_cells hbx]; rfl, by rw [cell_cells hbx]; rfl, by rw [cell_cells hbx]; rfl, by rw [cell_cells hbx]; rfl, by rw [cell_cells hbx]; rfl⟩)
  have HA := Lib.hid (And.intro htb (And.intro hnk (And.intro hak kb)))
  have HZ := Lib.hid (show ∀ t, e.tags = some t → (tKey t).size ≤ 100000 from fun t ht' => (ok.tg t ht').2)
  rw [← htb]
  clear htb hnk hak hn hc ht hpar h k0 kb hbb ok
  have hs1 : ¬ 9223372036854775807 < nk.size + (frm ak).size := by omega
  have hs2 : ¬ 9223372036854775807 < nk.size + (frm ak).size + (flagS tb).size := by omega
  have hs3 : ¬ 9223372036854775807 < nk.size + (frm ak).size + 1 := by omega
  go_enter Tryz.func30, Tryz.ntmps30
  go_upto_region 1 with fail
  rw [← hwb]
  clear hwb
  have hK0 : Keep NoB wb wb.drew := Keep.drew _ _
  have hq := HX.out _ hK0
  obtain ⟨q1, q2, q3, q4, q5, q6, q7⟩ := hq
  go_region_held3 (fun x => Keep NoB wb x ∧ x.cell? ⟨w.heap.size, 1, none⟩ = some (.slice po pn pc) ∧ x.cell? ⟨w.heap.size, 2, none⟩ = some (.slice ao an ac) ∧ x.cell? ⟨w.heap.size, 3, none⟩ = some (.bool tb) ∧ x.cell? ⟨w.heap.size, 4, none⟩ = some (.int .i64 k) ∧ x.cell? ⟨w.heap.size, 5, none⟩ = some (.string s) ∧ x.cell? ⟨w.heap.size, 6, none⟩ = some (.slice eo en ec) ∧ x.cell? ⟨w.heap.size, 7, none⟩ = some (.slice lo ln lc))
    (with_reducible (first
      | exact ⟨kwA, HX.out _ kwA⟩
      | exact ⟨hK0, HX.out _ hK0⟩
      | assumption))
    ((first
      | (go_at_call 31
         refine (HN.out _ (HA.out.2.2.2.then (by go_split_ands; assumption))).mono ?_
         rintro e w4 ⟨rfl, k4⟩
         have kwA : Keep NoB wb w4 := Keep.then (by go_split_ands; assumption) k4)
      | (go_at_call 34
         refine (HAK.out _ (HA.out.2.2.2.then (by go_split_ands; assumption))).mono ?_
         rintro e w4 ⟨rfl, k4⟩
         have kwA : Keep NoB wb w4 := Keep.then (by go_split_ands; assumption) k4)
      | (go_at_call 29
         refine (framed_c _ (by omega) _).mono ?_
         rintro e w4 ⟨rfl, k4⟩
         have kwA : Keep NoB wb w4 := Keep.then (by go_split_ands; assumption) k4)
      | (go_at_call 33
         refine (flag_c tb _).mono ?_
         rintro e w4 ⟨rfl, hw4⟩
         subst hw4
         have kwA : Keep NoB wb w4 := (by go_split_ands; assumption))))
  have KA := Lib.hid kwA
  obtain ⟨G, hG⟩ : ∃ G, G = nk ++ frm ak ++ flagS tb := ⟨_, rfl⟩
  have hGz : G.size ≤ 500000 := by rw [hG, ByteArray.size_append, ByteArray.size_append]; omega
  rw [← hG]
  have HG := Lib.hid hG
  obtain ⟨r1, r2, r3, r4, r5, r6, r7⟩ := HX.out _ KA.out
  clear kwA k4 hK0 q1 q2 q3 q4 q5 q6 q7 hs1 hs2 hs3 hB hnz hfz hgz hG
  cases tb
  · go_wp2_with fail
    go_ret
    have ht : e.tags = none := by
      have h1 := HA.out.1
      cases h : e.tags with
      | none => rfl
      | some t => rw [h] at h1; cases h1
    refine ⟨?_, HA.out.2.2.2.then KA.out⟩
    unfold eK eK0 tagS
    rw [HG.out, HA.out.2.1, HA.out.2.2.1, ht]
    simp only [Option.isSome_none]
    rw [show ∀ a : Str, a ++ (⟨#[]⟩ : Str) = a from fun a => ByteArray.append_empty (b := a)]
    rfl
  · obtain ⟨t, ht⟩ : ∃ t, e.tags = some t := by
      have h1 := HA.out.1
      cases h : e.tags with
      | none => rw [h] at h1; cases h1
      | some t => exact ⟨t, rfl⟩
    have HTT := Lib.hid (HT.out t ht)
    have htz := HZ.out t ht
    obtain ⟨tk, htk⟩ : ∃ tk, tk = tKey t := ⟨_, rfl⟩
    rw [← htk] at HTT htz
    have HQ := Lib.hid (And.intro ht htk)
    clear ht htk
    go_wp2_with fail
    refine (HTT.out _ (HA.out.2.2.2.then KA.out)).mono ?_
    rintro e w5 ⟨rfl, k5⟩
    have K5 := Lib.hid k5
    clear k5
    go_wp2_with fail
    go_ret
    refine ⟨?_, (HA.out.2.2.2.then KA.out).then K5.out⟩
    unfold eK eK0 tagS
    rw [HG.out, HA.out.2.1, HA.out.2.2.1, HQ.out.1, HQ.out.2]
    rfl
/-- What the walk of resolvedKey asks. -/
theorem entKeys {w : World} {M : Nat → Prop} {lE : List (Str × IEnt)} (h : ∀ p ∈ lE, EntFlat p.2) : EntKeys w M eK lE :=
  fun p hp ps ats k s el al ho x kx => entityKey_c w M p.1 p.2 ps ats k s el al (h p hp) ho x kx
end Go.Proofs.YthhjehajdcgkhaaGreatDoor
