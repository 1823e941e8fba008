/- Walks of the functions that resolve a type. -/
import Derived.Test.YtedgonoeeeiilaaGreatDoorWa
import Derived.Test.YtedgonoeeeiilaaGreatDoorTa
namespace Go.Proofs.YtedgonoeeeiilaaGreatDoor
open Go.RowKit

/-- What resolving a type returns: the type, in new memory, or an error. -/
def ResOut (w : World) (r : Option RTy) (e : Ending) (w' : World) : Prop :=
  match r with
  | some t => ∃ v, e = .returned (.tuple #[v, .nilIface]) ∧ (∃ T x, v = .iface T x) ∧ RTyIs w' (· < w.heap.size) t v
  | none => ∃ x a, e = .returned (.tuple #[x, .iface 296 (.pointer (some a))])



/-- What resolving a record returns. -/
def RecOut (w : World) (r : Option RTy) (e : Ending) (w' : World) : Prop :=
  match r with
  | some t => ∃ b, e = .returned (.tuple #[.map (some b), .nilIface]) ∧ RTyIs w' (· < w.heap.size) t (.iface 75 (.map (some b)))
  | none => ∃ a, e = .returned (.tuple #[.map none, .iface 296 (.pointer (some a))])

/-- The loop over the attributes of a record: what holds when k of them are still to come. -/
def RecInv (w wr : World) (bm : Nat) (l : List (Str × ATy × Bool)) (lv : List (Str × Value)) (f : ATy → Option (Option RTy)) (k : Nat) : Prop :=
  ∃ left lres, left.length = k ∧ KIter Value.string wr (some bm) (w.heap.size + 1) lv left ∧ Keep NoB w wr ∧ w.heap.size + 2 ≤ wr.heap.size ∧ KMap Value.string wr w.heap.size lres ∧ lres.length + left.length = lv.length ∧
    (∀ p ∈ lres, p.1 ∉ left.map (·.1)) ∧
    (∀ k t o, (k, t, o) ∈ l → k ∉ left.map (·.1) → ∃ rt v an, f t = some (some rt) ∧ (k, .agg #[v, .bool o, .map an]) ∈ lres ∧ RTyIs wr (· < w.heap.size + 2) rt v)

set_option maxRecDepth 100000 in
set_option maxHeartbeats 1000000 in
theorem resRecord_c (b : Nat) (ns : Str) (M : Nat → Prop) (w : World) (f : ATy → Option (Option RTy))
    (hf : ∀ w' t v r, Keep NoB w w' → ATyIs w' M t v → f t = some r → Calls Tryz.prog 84 #[.pointer (some ⟨b, 0, none⟩), .string ns, v] w' fun e w'' => ResOut w' r e w'' ∧ Keep NoB w' w'')
    (l : List (Str × ATy × Bool)) (bm : Nat) (hl : ATyIs w M (.record l) (.iface 181 (.map (some bm)))) (r : Option RTy) (hr : resRec f l = some r) :
    Calls Tryz.prog 83 #[.pointer (some ⟨b, 0, none⟩), .string ns, .map (some bm)] w fun e w' => RecOut w r e w' ∧ Keep NoB w w' := by
  cases hl with
  | @record _ lv _ fv an hm hM hn hlen hat hty =>
  have hmk := hm
  obtain ⟨o, hrun, hit⟩ := KMapO.range (m := some bm) (w := w.alloc (.map #[] 0)) (hm.keep (Keep.alloc w _ NoB) (NoB.not _)) Tryz.underlying181
  have hlenr := KMapO.len (m := some bm) hm Tryz.underlying181 3
  have hmkr := run_makeMap_hint Tryz.underlying75
  have HF := Lib.hid hf
  have HR := Lib.hid hr
  have HH := Lib.hid (And.intro hn (And.intro hlen (And.intro hat (And.intro hty hmk))))
  have HI := Lib.hid hit
  clear hm hf hr hn hlen hat hty hmk hit
  go_enter Tryz.func83, Tryz.ntmps83
  go_wp2
  go_loopg [] lv.length (fun k wr => RecInv w wr bm l lv f k)
  case atStart =>
    refine ⟨lv, [], rfl, by simpa using HI.out, (Keep.alloc w _ NoB).then (Keep.alloc _ _ NoB), by simp, ?_, by simp, by simp, ?_⟩
    · exact (KMap.made w).keep (Keep.alloc _ _ NoB) (NoB.not _)
    · intro k t o hm hk
      exact (hk (List.mem_map.2 ⟨_, HH.out.2.2.1 k t o hm, rfl⟩)).elim
  case round =>
    obtain ⟨left, lres, e1, hit, hk, hsz, hmr, hlr, hfr, hdone⟩ := hrel
    have HL := Lib.hid (And.intro e1 (And.intro hk (And.intro hsz (And.intro hmr (And.intro hlr (And.intro hfr hdone))))))
    clear HI hrun hlenr hmkr e1 hk hsz hmr hlr hfr hdone
    rcases hit.next (P := Tryz.prog) (fun h => by cases h; rfl) 0 with ⟨rfl, hnext⟩ | ⟨p, left', w', hp, hnext, hentry, hit', hk', hsz'⟩
    · clear hit
      go_wp2
      go_ret2
      obtain ⟨e1, hk, hsz, hmr, hlr, hfr, hdone⟩ := HL.out
      obtain ⟨hn, hlen, hat, hty, hm⟩ := HH.out
      have hall : ∀ k t o, (k, t, o) ∈ l → ∃ x, f t = some (some x) := fun k t o hm' => by
        obtain ⟨rt, _, _, h1, _⟩ := hdone k t o hm' (by simp)
        exact ⟨rt, h1⟩
      obtain ⟨l', rfl, hkeys, hl'⟩ := (resRec_some HR.out).2.2 hall
      have hn' : (l'.map (·.1)).Nodup := by rw [hkeys]; exact hn
      have hl2 : l'.length = l.length := by have := congrArg List.length hkeys; simpa using this
      refine ⟨⟨w.heap.size, rfl, RTyIs.mkRecord hmr (fun h => by omega) hn' (by simp at hlr; omega) fun k rt o hm' => ?_⟩, hk⟩
      obtain ⟨t, hm2, hft⟩ := hl' k rt o hm'
      obtain ⟨rt2, v, an2, h1, h2, h3⟩ := hdone k t o hm2 (by simp)
      rw [hft] at h1
      simp only [Option.some.injEq] at h1
      subst h1
      exact ⟨v, an2, h2, h3.keep (Keep.refl NoB wr) (fun _ _ h => h.elim) (fun i _ h => by show i < _; omega)⟩
    · obtain ⟨hn, hlen, hat, hty, hm⟩ := HH.out
      have hpm : p ∈ lv := hit.sub.subset (hp.mem_iff.2 (.head _))
      obtain ⟨⟨t, ob⟩, hpl, hpv⟩ := entry_back (lv := lv) hn hm.nodup hlen (fun k x => .agg #[fv k, .bool x.2, .map (an k)]) (fun k x hx => hat k x.1 x.2 hx) p.1 p.2 hpm
      obtain ⟨pk, pv⟩ := p
      obtain rfl : pv = .agg #[fv pk, .bool ob, .map (an pk)] := hpv
      obtain ⟨rt, hrt⟩ := (resRec_some HR.out).1 pk t ob hpl
      have ht := hty pk t ob hpl
      have hsub := hit.sub
      obtain ⟨vv, hve⟩ : ∃ vv, vv = fv pk := ⟨_, rfl⟩
      rw [← hve] at ht hnext hentry hp
      obtain ⟨T, x, rfl⟩ := ht.iface
      have HK := Lib.hid (And.intro ht (And.intro hpl (And.intro hrt (And.intro hp (And.intro hit' (And.intro hk' (And.intro hsz' hsub)))))))
      clear ht hve hn hlen hat hty hm hpm hpl hrt hp hit' hk' hsz' hit hsub
      go_wp2_with fail
      obtain ⟨ht, hpl, hrt, hp, hit', hk', hsz', hsub⟩ := HK.out
      obtain ⟨e1, hk, hsz, hmr, hlr, hfr, hdone⟩ := HL.out
      have kw : Keep NoB w (w'.alloc (Obj.cells #[Value.iface T x, Value.bool ob, Value.map (an pk)] 295)) := (hk.trans hk' (M'' := NoB) (fun _ _ h => h) (fun i hi h => by subst h; omega)).then (Keep.alloc _ _ _)
      clear hnext hentry
      refine (HF.out _ t _ rt kw (ht.keep kw (fun _ _ h => h.elim) (fun _ _ h => h)) hrt).mono ?_
      rintro e w2 ⟨hout, hk2⟩
      have kw2 := kw.then hk2
      have kr2 : Keep (· = w.heap.size + 1) wr w2 := (hk'.then (Keep.alloc _ _ NoB)).then hk2
      have hc1 : w2.cell? ⟨w'.heap.size, 1, none⟩ = some (.bool ob) := hk2.cell (by simp) (NoB.not _)
      have hc2 : w2.cell? ⟨w'.heap.size, 2, none⟩ = some (.map (an pk)) := hk2.cell (by simp) (NoB.not _)
      have hs2 : w'.heap.size < w2.heap.size := by have := hk2.size; simp at this; omega
      have hit2 : KIter Value.string w2 (some bm) (w.heap.size + 1) lv left' := hit'.keep ((Keep.alloc _ _ NoB).then hk2) (fun _ _ h => h) (fun h => h)
      have hmr2 : KMap Value.string w2 w.heap.size lres := hmr.keep kr2 (fun h => by omega)
      have hnl : (left.map (·.1)).Nodup := (hsub.map _).nodup HH.out.2.2.2.2.nodup
      have hpn : pk ∈ left.map (·.1) := List.mem_map.2 ⟨_, hp.mem_iff.2 (.head _), rfl⟩
      have hfresh : ∀ q ∈ lres, q.1 ≠ pk := fun q hq e => hfr q hq (e ▸ hpn)
      have hkl : ∀ y, y ∈ left.map (·.1) ↔ (y = pk ∨ y ∈ left'.map (·.1)) := fun y => by
        rw [(hp.map (·.1)).mem_iff]; simp
      have hnl' : pk ∉ left'.map (·.1) := by
        have := (hp.map (·.1)).nodup_iff.1 hnl
        exact (List.nodup_cons.1 this).1
      have hlen2 : left.length = left'.length + 1 := by rw [hp.length_eq]; rfl
      have HQ := Lib.hid (And.intro e1 (And.intro hpl (And.intro hrt (And.intro hlr (And.intro hfr (And.intro hfresh (And.intro hkl (And.intro hnl' (And.intro hlen2 (And.intro hit2 (And.intro kw2 (And.intro kr2 hdone))))))))))))
      have hsz2 : w.heap.size + 2 ≤ w2.heap.size := by omega
      clear e1 hpl hrt hlr hfr hfresh hkl hnl' hlen2 hit2 kw2 kr2 hdone hpn hnl hmr ht hp hit' hk' hsz' hsub hk hsz kw hk2
      cases rt with
      | none =>
        obtain ⟨x2, a2, rfl⟩ := hout
        clear hmr2 hs2 hsz2
        go_wp2
        go_ret2
        obtain ⟨e1, hpl, hrt, hlr, hfr, hfresh, hkl, hnl', hlen2, hit2, kw2, kr2, hdone⟩ := HQ.out
        obtain rfl := (resRec_some HR.out).2.1 ⟨pk, t, ob, hpl, hrt⟩
        exact ⟨⟨a2, rfl⟩, kw2⟩
      | some rt =>
        obtain ⟨v, rfl, ⟨T2, x2, rfl⟩, hv⟩ := hout
        obtain ⟨o3, hupd, hm3⟩ := hmr2.update (strKey Tryz.underlying94) Tryz.underlying75 pk (.agg #[.iface T2 x2, .bool ob, .map (an pk)])
        have HV := Lib.hid (And.intro hv (And.intro hm3 hs2))
        clear hv hm3 hs2 hmr2
        go_wp2
        go_roundg left'.length
        case measure =>
          obtain ⟨e1, hpl, hrt, hlr, hfr, hfresh, hkl, hnl', hlen2, hit2, kw2, kr2, hdone⟩ := HQ.out
          omega
        case rel =>
          obtain ⟨e1, hpl, hrt, hlr, hfr, hfresh, hkl, hnl', hlen2, hit2, kw2, kr2, hdone⟩ := HQ.out
          obtain ⟨hv, hm3, hs2⟩ := HV.out
          have hA : w.heap.size + 2 ≤ (w'.alloc (Obj.cells #[Value.iface T x, Value.bool ob, Value.map (an pk)] 295)).heap.size := by
            have h1 := HK.out.2.2.2.2.2.2.1
            have h2 := HL.out.2.2.1
            simp; omega
          have k3 : Keep (· = w.heap.size) w2 (ChangeMaps.setBlock w2 w.heap.size o3) := Keep.setBlock _ _ _ (fun _ => rfl)
          have hput : kput lres pk (Value.agg #[.iface T2 x2, .bool ob, .map (an pk)]) = lres ++ [(pk, .agg #[.iface T2 x2, .bool ob, .map (an pk)])] := kput_fresh _ hfresh
          rw [hput] at hm3
          refine ⟨left', _, rfl, hit2.keep k3 (fun b' hb' h => ?_) (fun h => by omega), kw2.trans k3 (fun _ _ h => h) (fun i hi h => by omega), by simpa [ChangeMaps.setBlock] using hsz2, hm3, by simp; omega, ?_, ?_⟩
          · cases hb'
            have := HH.out.2.2.2.2.lt
            omega
          · intro q hq hq2
            rcases List.mem_append.1 hq with hq | hq
            · exact hfr q hq ((hkl _).2 (.inr hq2))
            · simp only [List.mem_singleton] at hq
              rw [hq] at hq2; exact hnl' hq2
          · intro k2 t2 o2 hm2 hk2
            by_cases hkk : k2 = pk
            · subst hkk
              have he := key_unique HH.out.1 hm2 hpl
              simp only [Prod.mk.injEq] at he
              obtain ⟨rfl, rfl⟩ := he
              exact ⟨rt, _, an k2, hrt, List.mem_append.2 (.inr (by simp)), hv.keep k3 (fun i hi h => by subst h; show _ < _; omega) (fun i hi h => by show i < _; omega)⟩
            · obtain ⟨rt2, v2, an2, h1, h2, h3⟩ := hdone k2 t2 o2 hm2 (fun h => by
                rcases (hkl k2).1 h with h | h
                · exact hkk h
                · exact hk2 h)
              refine ⟨rt2, v2, an2, h1, List.mem_append.2 (.inl h2), ?_⟩
              have h4 : RTyIs w2 (· < w.heap.size + 2) rt2 v2 := h3.keep kr2 (fun i hi h => by show i < _; omega) (fun _ _ h => h)
              exact h4.keep k3 (fun i hi h => by show i < _; omega) (fun _ _ h => h)
end Go.Proofs.YtedgonoeeeiilaaGreatDoor
