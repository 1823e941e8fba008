/- The walk of the function that resolves entity types. -/
import Derived.Test.YtedgonoeeeiilaaGreatDoorWh
import Derived.Deep.DeepCutAuto
import Derived.Deep.CutRange
namespace Go.Proofs.YtedgonoeeeiilaaGreatDoor
open Go.RowKit

/-- What the declaration of an entity type is resolved to, as far as so many steps tell. -/
def resEnt (V : Env) (n : Nat) (ns nm : Str) (e : AEnt) : Option (Option REnt) :=
  (match e.shape with
    | none => some (some none)
    | some l => (resRec (resTy V n ns) l).map (Option.map some)).bind fun sh =>
  (match e.tags with
    | none => some (some none)
    | some t => (resTy V n ns t).map (Option.map some)).map fun (tg : Option (Option RTy)) =>
  (e.parents.mapM (entRef V ns)).bind fun ps => sh.bind fun s => tg.map fun t => { name := qual ns nm, parents := ps, shape := s, tags := t }

/-- what of a shape, of tags is resolved -/
def ShOf (V : Env) (n : Nat) (ns : Str) : Option (List (Str × ATy × Bool)) → Option (Option RTy) → Prop
  | none, sh => sh = some none
  | some l, sh => ∃ x, resRec (resTy V n ns) l = some x ∧ sh = x.map some
def TgOf (V : Env) (n : Nat) (ns : Str) : Option ATy → Option (Option RTy) → Prop
  | none, sh => sh = some none
  | some t, sh => ∃ x, resTy V n ns t = some x ∧ sh = x.map some
theorem resEnt_inv {V : Env} {n : Nat} {ns nm : Str} {e : AEnt} {res : Option REnt} (h : resEnt V n ns nm e = some res) :
    ∃ sh tg, ShOf V n ns e.shape sh ∧ TgOf V n ns e.tags tg ∧ res = (e.parents.mapM (entRef V ns)).bind fun ps => sh.bind fun s => tg.map fun t => { name := qual ns nm, parents := ps, shape := s, tags := t } := by
  unfold resEnt at h
  simp only [Option.bind_eq_some_iff, Option.map_eq_some_iff] at h
  obtain ⟨sh, h1, tg, h2, h3⟩ := h
  refine ⟨sh, tg, ?_, ?_, h3.symm⟩
  · cases hs : e.shape with
    | none => rw [hs] at h1; simp only [Option.some.injEq] at h1; exact h1.symm
    | some l => rw [hs] at h1; simp only [Option.map_eq_some_iff] at h1; obtain ⟨x, h4, h5⟩ := h1; exact ⟨x, h4, h5.symm⟩
  · cases hs : e.tags with
    | none => rw [hs] at h2; simp only [Option.some.injEq] at h2; exact h2.symm
    | some l => rw [hs] at h2; simp only [Option.map_eq_some_iff] at h2; obtain ⟨x, h4, h5⟩ := h2; exact ⟨x, h4, h5.symm⟩
theorem mapM_hit_none {α β : Type} {f : α → Option β} {l : List α} {x : α} (hx : x ∈ l) (h : f x = none) : l.mapM f = none := by
  cases hm : l.mapM f with
  | none => rfl
  | some l' => obtain ⟨y, _, e⟩ := (mapM_some hm).1 x hx; rw [h] at e; cases e

theorem infoEntType : (Tryz.prog.info? 67).map (fun i => (i.zero, i.size, i.bytes)) = some (some (.string ⟨#[]⟩), 1, 16) := by kernel_rfl

/-- The inner loop: the first j parents have been resolved. -/
def EntRow (V : Env) (ns : Str) (w' w2 : World) (c : Array Value) (an : Option Nat) (q : Str) (parents : List Str) (j : Nat) : Prop :=
  Keep NoB w' w2 ∧ w'.heap.size + 2 ≤ w2.heap.size ∧ w2.heap[w'.heap.size]? = some (.cells c 185 (0, 0)) ∧
  ∃ sl l, w2.heap[w'.heap.size + 1]? = some (.cells #[.string q, .map an, sl, .map none, .nilIface] 79 (0, 0)) ∧ w2.ownsRow (w'.heap.size + 2) 67 1 sl j (l.map Value.string) ∧ (parents.take j).mapM (entRef V ns) = some l

theorem mapM_take_succ {α β : Type} {f : α → Option β} {l : List α} {j : Nat} (hj : j < l.length) {l' : List β} (h : (l.take j).mapM f = some l') : (l.take (j + 1)).mapM f = (f l[j]).map (fun y => l' ++ [y]) := by
  rw [List.take_succ_eq_append_getElem hj, List.mapM_append, h]
  cases hf : f l[j] <;> simp [hf]

theorem EntRow.step {V : Env} {ns : Str} {w' w4 : World} {c : Array Value} {an : Option Nat} {q : Str} {parents : List Str} {j : Nat} {sl v' : Value} {l : List Str} {x : Str} (k2 : Keep NoB w' w4) (hs : w'.heap.size + 2 ≤ w4.heap.size) (hc0 : w4.heap[w'.heap.size]? = some (.cells c 185 (0, 0)))
    (hrow : w4.heap[w'.heap.size + 1]? = some (.cells #[.string q, .map an, sl, .map none, .nilIface] 79 (0, 0))) (hown : w4.ownsRow (w'.heap.size + 2) 67 1 v' (j + 1) (l.map Value.string ++ [.string x])) (hm : (parents.take (j + 1)).mapM (entRef V ns) = some (l ++ [x])) :
    EntRow V ns w' (w4.setCell ⟨w'.heap.size + 1, 2, none⟩ v') c an q parents (j + 1) := by
  have ka := Keep.setCell (M := (· = w'.heap.size + 1)) w4 ⟨w'.heap.size + 1, 2, none⟩ v' (fun _ => rfl)
  refine ⟨k2.trans ka (fun _ _ h => h) (fun i hi h => by omega), Nat.le_trans hs ka.size, ka.heap hc0 (fun h => by omega), v', l ++ [x], setCell_cells hrow 2 v', ?_, hm⟩
  rw [List.map_append]
  exact World.ownsRow.keep (M := (· = w'.heap.size + 1)) hown ka (fun i hi h => by omega)

theorem ownsRow_strs {w : World} {M : Nat → Prop} {base : Nat} {e : TypeId} {v : Value} {n : Nat} {l : List Str} (h : w.ownsRow base e 1 v n (l.map Value.string)) (hM : ∀ i, M i → i < base) : l.length = n ∧ StrsAt w M l v := by
  obtain ⟨h1, h2⟩ := h
  have hl : l.length = n := by simpa using h1
  refine ⟨hl, ?_⟩
  rcases h2 with ⟨rfl, rfl⟩ | ⟨g, cap, cur, rfl, hb, hh, hc, _, hs, ht⟩
  · exact ⟨none, 0, by rw [hl], .inl hl⟩
  · refine ⟨_, cap, by rw [hl], .inr ⟨g, 0, rfl, fun h => by have := hM g h; omega, fun i hi => ⟨rfl, fun q v hq => ?_⟩⟩⟩
    rcases q with _ | q
    · obtain rfl : Value.string (l.getD i ⟨#[]⟩) = v := by simpa using hq
      rw [cell_cells hh]
      have hi2 : i < n := by omega
      have e1 : (cur.toList.take (n * 1))[i]? = some (.string (l.getD i ⟨#[]⟩)) := by
        rw [ht, List.getElem?_map, List.getElem?_eq_getElem hi, List.getD_eq_getElem?_getD, List.getElem?_eq_getElem hi]; rfl
      rw [List.getElem?_take_of_lt (by omega)] at e1
      simpa using e1
    · cases hq
theorem ShOf.unique {V : Env} {n : Nat} {ns : Str} {e : Option (List (Str × ATy × Bool))} {a b : Option (Option RTy)} (h1 : ShOf V n ns e a) (h2 : ShOf V n ns e b) : a = b := by
  cases e with
  | none => exact Eq.trans h1 (Eq.symm h2)
  | some l => obtain ⟨x, h3, rfl⟩ := h1; obtain ⟨y, h4, rfl⟩ := h2; rw [h3] at h4; cases h4; rfl
theorem TgOf.unique {V : Env} {n : Nat} {ns : Str} {e : Option ATy} {a b : Option (Option RTy)} (h1 : TgOf V n ns e a) (h2 : TgOf V n ns e b) : a = b := by
  cases e with
  | none => exact Eq.trans h1 (Eq.symm h2)
  | some l => obtain ⟨x, h3, rfl⟩ := h1; obtain ⟨y, h4, rfl⟩ := h2; rw [h3] at h4; cases h4; rfl

def EntsOut (MR : Nat → Prop) (oE : Nat) (ns : Str) (le : List (Str × Value)) (RE : Str → Option (Option REnt)) (R0 : List (Str × REnt)) (e : Ending) (w' : World) : Prop :=
  ((∃ a, e = .returned (.iface 296 (.pointer (some a)))) ∧ ∃ p ∈ le, RE p.1 = some none) ∨
  (e = .returned .nilIface ∧ (∀ p ∈ le, ∃ x, RE p.1 = some (some x)) ∧ ∃ R', Added (qual ns) (fun n => ((RE n).getD none).getD default) (le.map (·.1)) R0 R' ∧ ∃ lv, KMap Value.string w' oE lv ∧ MapRel (REntIs w' MR) R' lv)

set_option maxRecDepth 100000 in
set_option maxHeartbeats 8000000 in
theorem resolveEntities_c (w : World) (MR : Nat → Prop) (b mE mN mC bo oE : Nat) (V : Env) (hS : RS w MR b mE mN mC V) (fuel : Nat) (ns : Str) (hns : ns.size ≤ 1000000) (me : Option Nat) (le : List (Str × Value)) (hn : KMapO Value.string w me le) (hme : ∀ i, me = some i → ¬ MR i) (hMo : MR oE) (hMR : ∀ i, MR i → i < w.heap.size)
    (AE : Str → AEnt) (hAE : ∀ p ∈ le, p.1.size ≤ 1000000 ∧ AEntIs w MR (AE p.1) p.2 ∧ (AE p.1).parents.length ≤ 1000000 ∧ ∃ x, resEnt V fuel ns p.1 (AE p.1) = some x)
    (c1 : w.cell? ⟨bo, 1, none⟩ = some (.map (some oE))) (R0 : List (Str × REnt)) (hR0 : ∃ lv, KMap Value.string w oE lv ∧ MapRel (REntIs w MR) R0 lv) :
    Calls Tryz.prog 54 #[.pointer (some ⟨b, 0, none⟩), .string ns, .map me, .pointer (some ⟨bo, 0, none⟩)] w fun e w' => EntsOut MR oE ns le (fun n => resEnt V fuel ns n (AE n)) R0 e w' ∧ Keep (· = oE) w w' := by
  have hbo : bo ≠ oE := by obtain ⟨lv, hm, _⟩ := hR0; exact cell_ne_map c1 hm
  obtain ⟨o1, hrun, hit⟩ := hn.range (w := w) Tryz.underlying127
  obtain ⟨iU, hiU, hzU, hsU, hbU⟩ := info_parts infoEntType
  have HU := Lib.hid (And.intro hiU (And.intro hzU (And.intro hsU hbU)))
  have HI := Lib.hid hit
  have HA := Lib.hid (And.intro hS (And.intro hn (And.intro hme (And.intro hMo (And.intro hAE (And.intro c1 (And.intro hR0 (And.intro hbo hMR))))))))
  clear hit hS hn hme hMo hAE c1 hR0 hbo hMR hiU hzU hsU hbU
  go_enter Tryz.func54, Tryz.ntmps54
  go_wp2_with fail
  clear hrun
  go_loopg [] le.length (fun k wr => ∃ left R', left.length = k ∧ Out Value.string REntIs MR w wr me w.heap.size oE le (qual ns) (fun n => ((resEnt V fuel ns n (AE n)).getD none).getD default) R0 left R' ∧ ∀ p ∈ le, p.1 ∉ left.map (·.1) → ∃ x, resEnt V fuel ns p.1 (AE p.1) = some (some x))
  case atStart =>
    obtain ⟨hS, hn, hme, hMo, hAE, c1, hR0, hbo, hMR⟩ := HA.out
    exact ⟨le, R0, rfl, Out.start REntIs.keep HI.out (fun i hi e => hme i hi (e ▸ hMo)) hR0, fun p hp h => (h (List.mem_map.2 ⟨p, hp, rfl⟩)).elim⟩
  case round =>
    obtain ⟨left, R', e1, hF⟩ := hrel
    have HF := Lib.hid (And.intro e1 hF)
    clear HI e1 hF
    rcases HF.out.2.1.it.next (P := Tryz.prog) (fun h => by cases h; rfl) 0 with ⟨rfl, hnext⟩ | ⟨p, lf, w', hp, hnext, hentry, hit', hk', hsz'⟩
    · go_wp2_with fail
      go_ret
      obtain ⟨h1, h2⟩ := HF.out.2.1.over REntIs.keep
      exact ⟨.inr ⟨rfl, fun p hp => HF.out.2.2 p hp (by simp), R', h1, h2⟩, HF.out.2.1.keep⟩
    · obtain ⟨hS, hn, hme, hMo, hAE, c1, hR0, hbo, hMR⟩ := HA.out
      have hpm := HF.out.2.1.mem hp
      obtain ⟨pk, pv⟩ := p
      obtain ⟨hps, hpe, hpl, res, hres⟩ : pk.size ≤ _ ∧ AEntIs w MR (AE pk) pv ∧ _ := hAE (pk, pv) hpm
      dsimp only at hnext hentry
      have kw : Keep (· = oE) w w' := HF.out.2.1.keep2 hk' (Keep.refl NoB w')
      obtain ⟨an, pvv, sv, tv, hv, hsl, hsz, hsh, htg⟩ := AEntIs.keep.k (M' := fun i => MR i) kw (fun i _ e => e ▸ hMo) (fun _ _ h => h) hpe
      obtain rfl : pv = .agg #[.map an, pvv, sv, tv] := hv
      obtain ⟨ov, c, rfl, hsl⟩ := hsl
      obtain ⟨n, hne⟩ : ∃ n, n = (AE pk).parents.length := ⟨_, rfl⟩
      rw [← hne] at hnext hentry hp hsl hpl
      have hsv : ∃ ms, sv = .map ms := by
        cases hq : (AE pk).shape with
        | none => rw [hq] at hsh; exact ⟨none, hsh⟩
        | some l => rw [hq] at hsh; obtain ⟨bq, e2, _⟩ := hsh; exact ⟨_, e2⟩
      obtain ⟨ms, rfl⟩ := hsv
      have htv : tv = .nilIface ∨ ∃ T x, tv = .iface T x := by
        cases hq : (AE pk).tags with
        | none => rw [hq] at htg; exact .inl htg
        | some t => rw [hq] at htg; exact .inr (ATyIs.iface htg)
      have hS' := hS.keep (M' := MR) kw (fun i _ e => e ▸ hMo) (fun _ _ h => h)
      have c1' := kw.cell c1 hbo
      have HP := Lib.hid (And.intro hp (And.intro hit' (And.intro hk' (And.intro hpm (And.intro hne (And.intro hsl (And.intro hsz' (And.intro kw (And.intro c1' (And.intro hS' (And.intro hres (And.intro hsz (And.intro hsh htg)))))))))))))
      clear hp hit' hk' hpm hne hsl hsz' kw c1' hS hn hme hMo hAE c1 hR0 hbo hMR hpe hS' hres hsz hsh htg
      have htv1 : tv.oneCell' = true := by rcases htv with rfl | ⟨Tt, xt, rfl⟩ <;> rfl
      have hst := fun w a m => run_store Tryz.prog w a tv m htv1
      have HT := Lib.hid htv
      clear htv
      go_wp2_with (go_at_call 77; refine (qualEnt_c _ _ _ hns hps).mono ?_; rintro e w' ⟨rfl, rfl⟩)
      clear hst hnext hentry
      obtain ⟨cv, hcv⟩ : ∃ cv : Array Value, cv = #[.map an, .slice ov n c, .map ms, tv] := ⟨_, rfl⟩
      have HC := Lib.hid hcv
      go_loopg [38] n (fun k i w2 => ∃ j : Nat, j + k = n ∧ i = .int .i64 j ∧ EntRow V ns w' w2 cv an (qual ns pk) (AE pk).parents j)
      case atStart =>
        refine ⟨0, by omega, rfl, (Keep.alloc _ _ NoB).then (Keep.alloc _ _ NoB), by simp, ?_, .slice none 0 0, [], ?_, ⟨rfl, .inl ⟨rfl, rfl⟩⟩, by simp⟩
        · rw [hcv]
          exact (Keep.alloc _ _ NoB).heap (MapKept.heap_alloc w' _).1 (NoB.not _)
        · have h := (MapKept.heap_alloc (w'.alloc (.cells #[.map an, .slice ov n c, .map ms, tv] 185)) (.cells #[.string (qual ns pk), .map an, .slice none 0 0, .map none, .nilIface] 79)).1
          rw [World.size_alloc] at h; exact h
      case round =>
        clear hcv
        obtain ⟨j, hj, rfl, hrow⟩ := hrel
        have HR := Lib.hid hrow
        clear hrow
        by_cases hlt : j < n
        · obtain ⟨hp, hit', hk', hpm, hne, hsl, hsz', kw, c1', hS', hres, hsz, hsh, htg⟩ := HP.out
          obtain ⟨k2, hs2, hc0, sl, l, hrow, hown, hm⟩ := HR.out
          rcases hsl with h0 | ⟨bv, offv, rfl, hMv, hcell⟩
          · omega
          have hcv := (hcell j hlt).2.keep k2 (NoB.not _) 0 _ rfl
          simp only [Nat.mul_one, Nat.add_zero] at hcv
          obtain ⟨vj, hvj⟩ : ∃ vj, vj = (AE pk).parents.getD j ⟨#[]⟩ := ⟨_, rfl⟩
          rw [← hvj] at hcv
          have hvjs : vj.size ≤ 1000000 := by
            have hjl : j < (AE pk).parents.length := by omega
            rw [hvj, List.getD_eq_getElem?_getD, List.getElem?_eq_getElem hjl]
            exact hsz _ (List.getElem_mem hjl)
          have HCR := Lib.hid (resEntRef_c wr MR b mE mN mC V (hS'.keep k2 (fun _ _ h => h.elim) (fun _ _ h => h)) ns vj hns hvjs)
          have HV := Lib.hid hvj
          clear hp hit' hk' hpm hne hcell hsz' kw c1' k2 hs2 hc0 hS' hres hsz hsh htg hrow hown hm hvj hvjs
          go_wp2_with fail
          refine HCR.out.mono ?_
          rintro e w3 ⟨hout, k3⟩
          cases hq : entRef V ns vj with
          | none =>
            rw [hq] at hout
            obtain ⟨a, rfl⟩ : ∃ a, e = _ := hout
            have HQ := Lib.hid (And.intro hq k3)
            clear hq k3 hcv
            go_wp2_with fail
            go_ret
            obtain ⟨hp, hit', hk', hpm, hne, hsl, hsz', kw, c1', hS', hres, hsz, hsh, htg⟩ := HP.out
            refine ⟨.inl ⟨⟨a, rfl⟩, _, hpm, ?_⟩, (kw.then HR.out.1).then HQ.out.2⟩
            obtain ⟨sh, tg, _, _, rfl⟩ := resEnt_inv hres
            have hjl : j < (AE pk).parents.length := by omega
            have hv : vj = (AE pk).parents[j] := by rw [HV.out, List.getD_eq_getElem?_getD, List.getElem?_eq_getElem hjl]; rfl
            show resEnt V fuel ns pk (AE pk) = some none
            rw [hres, mapM_hit_none (List.getElem_mem hjl) (by rw [← hv]; exact HQ.out.1)]; rfl
          | some x =>
            rw [hq] at hout
            obtain rfl : e = _ := hout
            obtain ⟨k2, hs2, hc0, sl, l, hrow, hown, hm⟩ := HR.out
            have hrow3 := k3.heap hrow (NoB.not _)
            have hsl3 : w3.cell? ⟨w'.heap.size + 1, 2, none⟩ = some sl := by rw [cell_cells hrow3]; rfl
            have hfz := frozen_cells hrow3 2
            have hown3 := hown.keep (M := NoB) k3 (fun _ _ => NoB.not _)
            have HQ := Lib.hid (And.intro hq (And.intro k3 (And.intro hrow3 (And.intro hown3 (And.intro hm hc0)))))
            clear hq k3 hcv k2 hs2 hc0 hrow hown hm hrow3 hown3
            go_wp2_with (at_builtin; refine wpList_append_own _ rfl _ _ 65 rfl (w'.heap.size + 2) 67 iU _ 1 16 Tryz.underlying65 HU.out.1 HU.out.2.1 HU.out.2.2.1 HU.out.2.2.2 rfl (by decide) _ _ _ rfl (HQ.out.2.2.2.1.alloc _) ⟨w3.heap.size, 0, none⟩ 1 1 [.string x] rfl rfl ?c1 ?c2 ?c3 ?c4 ?c5 ?_)
            case c1 =>
              intro q u hq
              rcases q with _ | q
              · cases hq; exact cell_cells (MapKept.heap_alloc w3 _).1 0
              · cases hq
            case c2 => intro u hu; simp only [List.mem_singleton] at hu; subst hu; rfl
            case c3 => unfold maxLen; omega
            case c4 => omega
            case c5 =>
              have h1 := HR.out.2.1
              have h2 := HQ.out.2.1.size
              rw [World.size_alloc]; omega
            intro v' w4 hown4 hgrow _
            obtain ⟨g, cap, rfl⟩ := owns_some hown4
            have kg := grown_keep HQ.out.2.2.2.1 hgrow
            have ka : Keep (fun k => w'.heap.size + 2 ≤ k) w3 w4 := (Keep.alloc w3 (.cells #[.string x] 67) NoB).first kg
            have hrow4 := ka.heap HQ.out.2.2.1 (fun h => by omega)
            have hsl4 : w4.cell? ⟨w'.heap.size + 1, 2, none⟩ = some sl := by rw [cell_cells hrow4]; rfl
            have hfz4 := frozen_cells hrow4 2
            have HG := Lib.hid (And.intro hown4 (And.intro ka hrow4))
            clear hown4 hgrow kg ka hrow4 hsl3 hfz
            go_wp2_with fail
            clear hsl4 hfz4
            go_roundg (gk - 1)
            case measure => omega
            case rel =>
              obtain ⟨hown4, ka, hrow4⟩ := HG.out
              obtain ⟨hq, k3, hrow3, hown3, hm, hc0⟩ := HQ.out
              have hne := HP.out.2.2.2.2.1
              have hjl : j < (AE pk).parents.length := by omega
              have hv : vj = (AE pk).parents[j] := by rw [HV.out, List.getD_eq_getElem?_getD, List.getElem?_eq_getElem hjl]; rfl
              have hsz := HR.out.2.1
              have hs3 := k3.size
              have k24 : Keep NoB w' w4 := (HR.out.1.then k3).trans ka (fun _ _ h => h) (fun i hi h => by omega)
              refine ⟨j + 1, by omega, by go_num, EntRow.step k24 (Nat.le_trans (Nat.le_trans hsz hs3) ka.size) (ka.heap (k3.heap hc0 (NoB.not _)) (fun h => by omega)) hrow4 hown4 ?_⟩
              rw [mapM_take_succ hjl hm, ← hv, hq]; rfl
        · have hjn : j = n := by omega
          subst hjn
          have HJ := Lib.hid hj
          clear hj hlt
          obtain ⟨k2, hs2, hc0, sl, l, hrow, hown, hm⟩ := HR.out
          have f2 : wr.cell? ⟨w'.heap.size, 2, none⟩ = some (.map ms) := by rw [cell_cells hc0, HC.out]; rfl
          have HR2 := Lib.hid (And.intro k2 (And.intro hs2 (And.intro hc0 (And.intro hrow (And.intro hown hm)))))
          clear k2 hs2 hc0 hrow hown hm
          have hnq : (binOp .neq 181 (.map ms) (.map none)).run Tryz.prog wr = .ok (.bool (!ms.isNone)) wr := run_neq_map_nil _ _ _ _ ms Tryz.underlying181
          go_upto_if 61 with fail
          clear hnq
          go_cut [17, 18] from 23 to 96 (fun s17 s18 wx => ∃ s shv, Keep NoB w' wx ∧ wr.heap.size ≤ wx.heap.size ∧ wx.heap[w'.heap.size]? = some (.cells cv 185 (0, 0)) ∧ wx.heap[w'.heap.size + 1]? = some (.cells #[.string (qual ns pk), .map an, sl, shv, .nilIface] 79 (0, 0)) ∧ (∃ mb, shv = .map mb) ∧ RShape wx (fun i => i < w'.heap.size + 2) s shv ∧ ShOf V fuel ns (AE pk).shape (some s) ∧ wx.ownsRow (w'.heap.size + 2) 67 1 sl j (l.map Value.string))
          case first =>
            rcases ms with _ | ms
            · go_wp2_with fail
              go_meet
              case rel =>
                obtain ⟨k2, hs2, hc0, hrow, hown, hm⟩ := HR2.out
                obtain ⟨hp, hit', hk', hpm, hne, hsl, hsz', kw, c1', hS', hres, hsz, hsh, htg⟩ := HP.out
                refine ⟨none, _, k2, Nat.le_refl _, hc0, hrow, ⟨none, rfl⟩, rfl, ?_, hown⟩
                cases hq : (AE pk).shape with
                | none => rfl
                | some l => rw [hq] at hsh; obtain ⟨bq, e2, _⟩ := hsh; cases e2
            · obtain ⟨k2, hs2, hc0, hrow, hown, hm⟩ := HR2.out
              obtain ⟨hp, hit', hk', hpm, hne, hsl, hsz', kw, c1', hS', hres, hsz, hsh, htg⟩ := HP.out
              obtain ⟨ls, hls⟩ : ∃ ls, (AE pk).shape = some ls := by
                cases hq : (AE pk).shape with
                | none => rw [hq] at hsh; cases hsh
                | some l => exact ⟨l, rfl⟩
              rw [hls] at hsh
              obtain ⟨bq, e2, hsh⟩ := hsh
              obtain rfl : ms = bq := by simpa using e2
              have hsh := ATyIs.keep k2 (fun _ _ h => h.elim) (fun _ _ h => h) hsh
              have hS2 := hS'.keep (M' := MR) k2 (fun _ _ h => h.elim) (fun _ _ h => h)
              obtain ⟨rs, hrs⟩ : ∃ r, resRec (resTy V fuel ns) ls = some r := by
                obtain ⟨sh, tg, h1, _⟩ := resEnt_inv hres
                rw [hls] at h1
                exact ⟨_, h1.choose_spec.1⟩
              have HCR := Lib.hid (resRecord_c b ns MR wr (resTy V fuel ns) (fun w' t v r hk ht hr => resType_c b mE mN mC V fuel w' MR ns t v r (hS2.keep hk (fun _ _ h => h.elim) (fun _ _ h => h)) ht hns hr) ls ms hsh rs hrs)
              have HX := Lib.hid (And.intro hls hrs)
              clear hp hit' hk' hpm hne hsl hsz' kw c1' hS' hres hsz hsh htg k2 hs2 hc0 hrow hown hm hls e2 hS2 hrs
              go_wp2_with fail
              refine HCR.out.mono ?_
              rintro e w3 ⟨hout, k3⟩
              cases rs with
              | none =>
                obtain ⟨a, rfl⟩ : ∃ a, e = _ := hout
                have HQ := Lib.hid k3
                clear k3 f2
                go_wp2_with fail
                go_ret
                obtain ⟨k2, hs2, hc0, hrow, hown, hm⟩ := HR2.out
                obtain ⟨hp, hit', hk', hpm, hne, hsl, hsz', kw, c1', hS', hres, hsz, hsh, htg⟩ := HP.out
                refine ⟨.inl ⟨⟨a, rfl⟩, _, hpm, ?_⟩, (kw.then k2).then HQ.out⟩
                show resEnt V fuel ns pk (AE pk) = some none
                obtain ⟨sh, tg, h1, _, rfl⟩ := resEnt_inv hres
                rw [HX.out.1] at h1
                obtain ⟨y, h1, rfl⟩ := h1
                rw [HX.out.2] at h1
                cases h1
                rw [hres]
                cases (AE pk).parents.mapM (entRef V ns) <;> rfl
              | some rt =>
                obtain ⟨bt, rfl, hrt⟩ : ∃ bt, e = _ ∧ _ := hout
                obtain ⟨k2, hs2, hc0, hrow, hown, hm⟩ := HR2.out
                have hrow3 := k3.heap hrow (NoB.not _)
                have hsl3 : w3.cell? ⟨w'.heap.size + 1, 3, none⟩ = some (.map none) := by rw [cell_cells hrow3]; rfl
                have hfz3 := frozen_cells hrow3 3
                have HQ := Lib.hid (And.intro k3 (And.intro hrow3 hrt))
                clear k3 f2 k2 hs2 hc0 hrow hown hm hrow3 hrt
                go_wp2_with fail
                go_meet
                case rel =>
                  obtain ⟨k2, hs2, hc0, hrow, hown, hm⟩ := HR2.out
                  obtain ⟨k3, hrow3, hrt⟩ := HQ.out
                  have ka := Keep.setCell (M := (· = w'.heap.size + 1)) w3 ⟨w'.heap.size + 1, 3, none⟩ (.map (some bt)) (fun _ => rfl)
                  refine ⟨some rt, _, (k2.then k3).trans ka (fun _ _ h => h) (fun i hi h => by omega), Nat.le_trans k3.size ka.size, ka.heap (k3.heap hc0 (NoB.not _)) (fun h => by omega), setCell_cells hrow3 3 _, ⟨some bt, rfl⟩, ⟨bt, rfl, hrt.keep ka (fun i hi h => by show i < _; omega) (fun i hi h => by show i < _; omega)⟩, ?_, World.ownsRow.keep (hown.keep k3 (fun _ _ => NoB.not _)) ka (fun i hi h => by omega)⟩
                  rw [HX.out.1]
                  exact ⟨_, HX.out.2, rfl⟩
          case rest =>
            obtain ⟨s, shv, k2, hs1, hc0, hrow, ⟨mb, rfl⟩, hshv, hshp, hown⟩ := hcut
            have f3 : wc.cell? ⟨w'.heap.size, 3, none⟩ = some tv := by rw [cell_cells hc0, HC.out]; rfl
            have hgd : (eqGuard .neq 183 (.tmp 76) (.const .nilIface) tv .nilIface).run Tryz.prog wc = .ok () wc := by
              rcases HT.out with rfl | ⟨T, x, rfl⟩ <;> go_simp
            obtain ⟨tb, hnq, htb⟩ : ∃ tb, (binOp .neq 183 tv .nilIface).run Tryz.prog wc = .ok (.bool tb) wc ∧ ((tb = false ∧ tv = .nilIface) ∨ (tb = true ∧ ∃ T x, tv = .iface T x)) := by
              rcases HT.out with rfl | ⟨T, x, rfl⟩
              · exact ⟨false, by go_simp, .inl ⟨rfl, rfl⟩⟩
              · exact ⟨true, by go_simp, .inr ⟨rfl, T, x, rfl⟩⟩
            have HR3 := Lib.hid (And.intro k2 (And.intro hs1 (And.intro hc0 (And.intro hrow (And.intro hshv (And.intro hshp (And.intro hown htb)))))))
            have HS := Lib.hid hshp
            clear k2 hs1 hc0 hrow hshv hshp hown htb f2
            go_upto_if 77 with fail
            clear hnq hgd
            go_cut [19, 20] from 23 to 96 (fun s19 s20 wx => ∃ tg tgv, Keep NoB w' wx ∧ wx.heap[w'.heap.size + 1]? = some (.cells #[.string (qual ns pk), .map an, sl, .map mb, tgv] 79 (0, 0)) ∧ tgv.oneCell' = true ∧ RShape wx (fun i => i < w'.heap.size + 2) s (.map mb) ∧ RTags wx (fun i => i < w'.heap.size + 2) tg tgv ∧ TgOf V fuel ns (AE pk).tags (some tg) ∧ wx.ownsRow (w'.heap.size + 2) 67 1 sl j (l.map Value.string))
            case first =>
              obtain ⟨k2, hs1, hc0, hrow, hshv, hshp, hown, htb⟩ := HR3.out
              rcases htb with ⟨rfl, rfl⟩ | ⟨rfl, T, x, rfl⟩
              · have HX := Lib.hid (And.intro k2 (And.intro hs1 (And.intro hc0 (And.intro hrow (And.intro hshv (And.intro hshp hown))))))
                clear k2 hs1 hc0 hrow hshv hshp hown
                go_wp2_with fail
                go_meet
                case rel =>
                  obtain ⟨hp, hit', hk', hpm, hne, hsl, hsz', kw, c1', hS', hres, hsz, hsh, htg⟩ := HP.out
                  obtain ⟨k2, hs1, hc0, hrow, hshv, hshp, hown⟩ := HX.out
                  refine ⟨none, _, k2, hrow, rfl, hshv, rfl, ?_, hown⟩
                  cases hq : (AE pk).tags with
                  | none => rfl
                  | some t => rw [hq] at htg; obtain ⟨_, _, h⟩ := ATyIs.iface htg; cases h
              · obtain ⟨hp, hit', hk', hpm, hne, hsl, hsz', kw, c1', hS', hres, hsz, hsh, htg⟩ := HP.out
                obtain ⟨tt, hls⟩ : ∃ tt, (AE pk).tags = some tt := by
                  cases hq : (AE pk).tags with
                  | none => rw [hq] at htg; cases htg
                  | some l => exact ⟨l, rfl⟩
                rw [hls] at htg
                have htg := ATyIs.keep k2 (fun _ _ h => h.elim) (fun _ _ h => h) htg
                have hS2 := hS'.keep (M' := MR) k2 (fun _ _ h => h.elim) (fun _ _ h => h)
                obtain ⟨rs, hrs⟩ : ∃ r, resTy V fuel ns tt = some r := by
                  obtain ⟨sh, tg, _, h1, _⟩ := resEnt_inv hres
                  rw [hls] at h1
                  exact ⟨_, h1.choose_spec.1⟩
                have HCR := Lib.hid (resType_c b mE mN mC V fuel wc MR ns tt _ rs hS2 htg hns hrs)
                have HX := Lib.hid (And.intro hls hrs)
                clear hp hit' hk' hpm hne hsl hsz' kw c1' hS' hres hsz hsh htg k2 hs1 hc0 hrow hown hshv hshp hls hS2 hrs
                go_wp2_with fail
                refine HCR.out.mono ?_
                rintro e w3 ⟨hout, k3⟩
                cases rs with
                | none =>
                  obtain ⟨x2, a, rfl⟩ : ∃ x2 a, e = _ := hout
                  have HQ := Lib.hid k3
                  clear k3 f3
                  go_wp2_with fail
                  go_ret
                  obtain ⟨k2, hs1, hc0, hrow, hshv, hshp, hown, htb⟩ := HR3.out
                  obtain ⟨hp, hit', hk', hpm, hne, hsl, hsz', kw, c1', hS', hres, hsz, hsh, htg⟩ := HP.out
                  refine ⟨.inl ⟨⟨a, rfl⟩, _, hpm, ?_⟩, (kw.then k2).then HQ.out⟩
                  show resEnt V fuel ns pk (AE pk) = some none
                  obtain ⟨sh, tg, _, h1, rfl⟩ := resEnt_inv hres
                  rw [HX.out.1] at h1
                  obtain ⟨y, h1, rfl⟩ := h1
                  rw [HX.out.2] at h1
                  cases h1
                  rw [hres]
                  cases (AE pk).parents.mapM (entRef V ns) <;> cases sh <;> rfl
                | some rt =>
                  obtain ⟨vt, rfl, ⟨Tt, xt, rfl⟩, hrt⟩ : ∃ vt, e = _ ∧ _ := hout
                  obtain ⟨k2, hs1, hc0, hrow, hshv, hshp, hown, htb⟩ := HR3.out
                  have hrow3 := k3.heap hrow (NoB.not _)
                  have hsl3 : w3.cell? ⟨w'.heap.size + 1, 4, none⟩ = some .nilIface := by rw [cell_cells hrow3]; rfl
                  have hfz3 := frozen_cells hrow3 4
                  have HQ := Lib.hid (And.intro k3 (And.intro hrow3 hrt))
                  clear k3 f3 k2 hs1 hc0 hrow hshv hshp hown htb hrow3 hrt
                  go_wp2_with fail
                  go_meet
                  case rel =>
                    obtain ⟨k2, hs1, hc0, hrow, hshv, hshp, hown, htb⟩ := HR3.out
                    obtain ⟨k3, hrow3, hrt⟩ := HQ.out
                    have hs2 := HR2.out.2.1
                    have ka := Keep.setCell (M := (· = w'.heap.size + 1)) w3 ⟨w'.heap.size + 1, 4, none⟩ (.iface Tt xt) (fun _ => rfl)
                    have hshv3 := RShape.keep.k (M' := fun i => i < w'.heap.size + 2) k3 (fun _ _ h => h.elim) (fun _ _ h => h) hshv
                    refine ⟨some rt, _, (k2.then k3).trans ka (fun _ _ h => h) (fun i hi h => by omega), setCell_cells hrow3 4 _, rfl, RShape.keep.k ka (fun i hi h => by show i < _; omega) (fun i hi h => h) hshv3, RTyIs.keep ka (fun i hi h => by show i < _; omega) (fun i hi h => by show i < _; omega) hrt, ?_, World.ownsRow.keep (hown.keep k3 (fun _ _ => NoB.not _)) ka (fun i hi h => by omega)⟩
                    rw [HX.out.1]
                    exact ⟨_, HX.out.2, rfl⟩
            case rest =>
              obtain ⟨tg, tgv, k2, hrow, hone, hshv, htgv, htgp, hown⟩ := hcut
              obtain ⟨hp, hit', hk', hpm, hne, hsl, hsz', kw, c1', hS', hres, hsz, hsh, htg⟩ := HP.out
              have HD := Lib.hid (And.intro k2 (And.intro hrow (And.intro hshv (And.intro htgv (And.intro htgp hown)))))
              clear k2 hrow hshv htgv htgp hown hp hit' hk' hpm hne hsl hsz' kw c1' hS' hres hsz hsh htg f3
              go_wp2_with fail
              refine still_tail 6 (by kernel_rfl) (by kernel_rfl) (fun w2 hw2 => ?_)
              obtain ⟨k2, hrow, hshv, htgv, htgp, hown⟩ := HD.out
              obtain ⟨hp, hit', hk', hpm, hne, hsl, hsz', kw, c1', hS', hres, hsz, hsh, htg⟩ := HP.out
              have kd : Keep NoB wc w2 := hw2 ▸ Keep.drew _ _
              have ka := k2.then kd
              have c1 := ka.cell c1' (NoB.not _)
              obtain ⟨lv, hm, hr⟩ := HF.out.2.1.map' REntIs.keep hk' ka
              obtain ⟨ob, hupd, hm3⟩ := hm.update (strKey Tryz.underlying67) Tryz.underlying71 (qual ns pk) (.agg #[.string (qual ns pk), .map an, sl, .map mb, tgv])
              have hrow2 := kd.heap hrow (NoB.not _)
              have g0 : w2.cell? ⟨w'.heap.size + 1, 0, none⟩ = some (.string (qual ns pk)) := by rw [cell_cells hrow2]; rfl
              have g1 : w2.cell? ⟨w'.heap.size + 1, 1, none⟩ = some (.map an) := by rw [cell_cells hrow2]; rfl
              have g2 : w2.cell? ⟨w'.heap.size + 1, 2, none⟩ = some sl := by rw [cell_cells hrow2]; rfl
              have g3 : w2.cell? ⟨w'.heap.size + 1, 3, none⟩ = some (.map mb) := by rw [cell_cells hrow2]; rfl
              have g4 : w2.cell? ⟨w'.heap.size + 1, 4, none⟩ = some tgv := by rw [cell_cells hrow2]; rfl
              have HE := Lib.hid (And.intro ka (And.intro hm (And.intro hr (And.intro hm3 (And.intro kd hrow2)))))
              clear hw2 hp hit' hk' hpm hsl hsz' kw c1' hne hS' hres hsz hsh htg k2 hrow hshv htgv htgp hown kd ka hm hr hm3 hrow2
              simp only [List.take_succ_cons, List.take_zero, List.drop_succ_cons, List.drop_zero]
              repeat still_step
              refine wpStill_nil ?_
              go_wp2_with fail
              go_roundg lf.length
              case measure =>
                have h1 := HP.out.1.length_eq
                have h2 := HF.out.1
                rw [List.length_cons] at h1; omega
              case rel =>
                obtain ⟨ka, hm, hr, hm3, kd, hrow2⟩ := HE.out
                obtain ⟨hp, hit', hk', hpm, hne, hsl, hsz', kw, c1', hS', hres, hsz, hsh, htg⟩ := HP.out
                obtain ⟨hk2, hrow, hshv, htgv, htgp, hown⟩ := HD.out
                obtain ⟨_, _, _, _, _, hm9⟩ := HR2.out
                obtain ⟨sh, tg', hsh1, htg1, rfl⟩ := resEnt_inv hres
                obtain rfl := ShOf.unique hsh1 HS.out
                obtain rfl := TgOf.unique htg1 htgp
                have htk : (AE pk).parents.take j = (AE pk).parents := by rw [hne]; exact List.take_length
                rw [htk] at hm9
                have hR : resEnt V fuel ns pk (AE pk) = some (some { name := qual ns pk, parents := l, shape := s, tags := tg }) := by rw [hres, hm9]; rfl
                have hr0 : w.heap.size < w'.heap.size := by have := HF.out.2.1.it.lt; omega
                have hMle : ∀ i, (MR i ∨ i = w.heap.size) → i < w'.heap.size := fun i h => by
                  rcases h with h | h
                  · have := HA.out.2.2.2.2.2.2.2.2 i h; omega
                  · omega
                have hfin : REntIs w2 (fun i => MR i ∨ i = w.heap.size) { name := qual ns pk, parents := l, shape := s, tags := tg } (.agg #[.string (qual ns pk), .map an, sl, .map mb, tgv]) :=
                  ⟨an, sl, .map mb, tgv, rfl, (ownsRow_strs (hown.keep kd (fun _ _ => NoB.not _)) (fun i h => by have := hMle i h; omega)).2, RShape.keep.k kd (fun _ _ h => h.elim) (fun i _ h => by have := hMle i h; show i < _; omega) hshv, RTags.keep.k kd (fun _ _ h => h.elim) (fun i _ h => by have := hMle i h; show i < _; omega) htgv⟩
                refine ⟨lf, _, rfl, HF.out.2.1.step REntIs.keep (fun h => qual_inj h) hp hit' hk' ka hm hr (v := .agg #[.string (qual ns pk), .map an, sl, .map mb, tgv]) (by rw [hR]; exact hfin) HA.out.2.2.2.1 hm3, fun p hpl hpn => ?_⟩
                by_cases hpe : p.1 = pk
                · rw [hpe]; exact ⟨_, hR⟩
                · exact HF.out.2.2 p hpl (fun h => by
                    have h2 := (hp.map (·.1)).mem_iff.1 h
                    simp only [List.map_cons, List.mem_cons] at h2
                    exact h2.elim hpe hpn)
end Go.Proofs.YtedgonoeeeiilaaGreatDoor
