/- The walk of the function that registers the declarations of a namespace. -/
import Derived.Test.YtedgonoeeeiilaaGreatDoorWd
import Derived.StillTailTactics
namespace Go.Proofs.YtedgonoeeeiilaaGreatDoor
open Go.RowKit

theorem still_tail {P : Program} {id : Nat} {Q : Exit → Act → World → Prop} {a : Act} {w : World} {l : List Oper} (n : Nat) (hm : P.follows .mixedOrders = true) (hB : Region.lexTailB .any l.toArray n = true)
    (h : ∀ w2, w2 = w.drew → wpStill P l.toArray w2 (fun a' => wpList P l.toArray Q (l.drop n) a' w2) (l.take n) a) : (Code.region id l.toArray true).wp P Q a w :=
  wp_region_still_tail n hm hB (h _ rfl)

theorem qual_inj {ns a b : Str} (h : qual ns a = qual ns b) : a = b := by
  unfold qual at h
  split at h
  · exact h
  · exact ByteArray.append_right_inj _ |>.1 h

def sins (l : List Str) (x : Str) : List Str := if x ∈ l then l else l ++ [x]
theorem mem_sins {l : List Str} {x y : Str} : y ∈ sins l x ↔ y ∈ l ∨ y = x := by
  unfold sins
  split
  · rename_i h
    exact ⟨.inl, fun q => q.elim id fun e => e ▸ h⟩
  · simp
theorem kput_set (l : List Str) (x : Str) : kput (l.map fun x => (x, Value.bool true)) x (.bool true) = (sins l x).map fun x => (x, Value.bool true) := by
  unfold kput sins
  by_cases hx : x ∈ l
  · rw [if_pos (List.any_eq_true.2 ⟨(x, .bool true), List.mem_map.2 ⟨x, hx, rfl⟩, by simp⟩), if_pos hx, List.map_map]
    apply List.map_congr_left
    intro y _
    simp only [Function.comp]
    split
    · rename_i e; rw [e]
    · rfl
  · rw [if_neg, if_neg hx]
    · simp
    · intro h
      obtain ⟨p, hp, e⟩ := List.any_eq_true.1 h
      obtain ⟨y, hy, rfl⟩ := List.mem_map.1 hp
      simp only [decide_eq_true_eq] at e
      exact hx (e ▸ hy)
theorem BSet.update {w : World} {b : Nat} {l : List Str} (h : BSet w b l) (x : Str) :
    ∃ o, (Instr.mapUpdate 206 (.map (some b)) (.string x) (.bool true)).run Tryz.prog w = .ok () (ChangeMaps.setBlock w b o) ∧ BSet (ChangeMaps.setBlock w b o) b (sins l x) := by
  obtain ⟨o, h1, h2⟩ := KMap.update h (strKey Tryz.underlying67) Tryz.underlying206 x (.bool true)
  exact ⟨o, h1, by unfold BSet; rw [← kput_set]; exact h2⟩

theorem MapRel.kput {κ α : Type} [DecidableEq κ] {R : α → Value → Prop} {l : List (κ × α)} {lv : List (κ × Value)} (h : MapRel R l lv) (hv : (lv.map (·.1)).Nodup) (k : κ) {x : α} {v : Value} (hR : R x v) : MapRel R (kput l k x) (kput lv k v) := by
  have hk : (∃ p ∈ l, p.1 = k) ↔ (∃ p ∈ lv, p.1 = k) := by
    constructor
    · rintro ⟨p, hp, rfl⟩
      obtain ⟨v', h1, _⟩ := h.rel p.1 p.2 hp
      exact ⟨_, h1, rfl⟩
    · rintro ⟨p, hp, rfl⟩
      have := subset_back h.nodup (b := lv.map (·.1)) (fun y hy => by
        obtain ⟨q, hq, rfl⟩ := List.mem_map.1 hy
        obtain ⟨v', h2, _⟩ := h.rel q.1 q.2 hq
        exact List.mem_map.2 ⟨_, h2, rfl⟩) (by simp [h.len]) p.1 (List.mem_map.2 ⟨_, hp, rfl⟩)
      obtain ⟨q, hq, e⟩ := List.mem_map.1 this
      exact ⟨q, hq, e⟩
  have hlen : ∀ {β : Type} (L : List (κ × β)) (y : β), (Go.Proofs.YtedgonoeeeiilaaGreatDoor.kput L k y).length = if (∃ p ∈ L, p.1 = k) then L.length else L.length + 1 := by
    intro β L y
    unfold Go.Proofs.YtedgonoeeeiilaaGreatDoor.kput
    by_cases he : ∃ p ∈ L, p.1 = k
    · rw [if_pos he, if_pos]
      · simp
      · obtain ⟨p, hp, e⟩ := he
        exact List.any_eq_true.2 ⟨p, hp, by simpa using e⟩
    · rw [if_neg he, if_neg]
      · simp
      · intro h2
        obtain ⟨p, hp, e⟩ := List.any_eq_true.1 h2
        exact he ⟨p, hp, by simpa using e⟩
  refine ⟨kput_nodup h.nodup k x, ?_, ?_⟩
  · rw [hlen, hlen]
    by_cases he : ∃ p ∈ l, p.1 = k
    · rw [if_pos he, if_pos (hk.1 he), h.len]
    · rw [if_neg he, if_neg (fun q => he (hk.2 q)), h.len]
  · intro k' x' hm
    have h1 := kget_mem (kput_nodup h.nodup k x) hm
    rw [kget_kput] at h1
    by_cases e : k = k'
    · subst e
      rw [if_pos rfl] at h1
      cases h1
      exact ⟨v, kget_some (by rw [kget_kput, if_pos rfl]), hR⟩
    · rw [if_neg e] at h1
      obtain ⟨v', h2, h3⟩ := h.rel k' x' (kget_some h1)
      exact ⟨v', kget_some (by rw [kget_kput, if_neg e]; exact kget_mem hv h2), h3⟩

/-- What the declarations of a namespace add. -/
structure EnvAdd (V : Env) (ns : Str) (ents enums : List Str) (C0 : List (Str × ATy)) (V' : Env) : Prop where
  E : ∀ x, x ∈ V'.E ↔ x ∈ V.E ∨ ∃ n ∈ ents, x = qual ns n
  N : ∀ x, x ∈ V'.N ↔ x ∈ V.N ∨ ∃ n ∈ enums, x = qual ns n
  C : ∀ n t, (n, t) ∈ C0 → kget V'.C (qual ns n) = some t
  old : ∀ x, (∀ n t, (n, t) ∈ C0 → x ≠ qual ns n) → kget V'.C x = kget V.C x

/-- The shape of an enumeration's value. -/
def EnumV (v : Value) : Prop := ∃ an a n c, v = .agg #[.map an, .slice a n c]
def CommonIs (w : World) (M : Nat → Prop) (t : ATy) (v : Value) : Prop := ∃ an tv, v = .agg #[.map an, tv] ∧ ATyIs w M t tv

/-- The first loop. -/
def Reg1 (w wr : World) (Mut : Nat → Prop) (me : Option Nat) (r mE : Nat) (le ln : List (Str × Value)) (ns : Str) (E0 : List Str) (k : Nat) : Prop :=
  ∃ left E', left.length = k ∧ KIter Value.string wr me r le left ∧ Keep Mut w wr ∧ r < wr.heap.size ∧ BSet wr mE E' ∧ (∀ x, x ∈ E' ↔ x ∈ E0 ∨ ∃ p ∈ le, p.1 ∉ left.map (·.1) ∧ x = qual ns p.1) ∧ (∀ p ∈ le, p.1 ∉ left.map (·.1) → kget ln p.1 = none)
/-- The second one. -/
def Reg2 (w wr : World) (Mut : Nat → Prop) (mn : Option Nat) (r mN : Nat) (ln : List (Str × Value)) (ns : Str) (N0 : List Str) (k : Nat) : Prop :=
  ∃ left N', left.length = k ∧ KIter Value.string wr mn r ln left ∧ Keep Mut w wr ∧ r < wr.heap.size ∧ BSet wr mN N' ∧ (∀ x, x ∈ N' ↔ x ∈ N0 ∨ ∃ p ∈ ln, p.1 ∉ left.map (·.1) ∧ x = qual ns p.1)

/-- The third one. -/
def Reg3 (w wr : World) (M : Nat → Prop) (mc : Option Nat) (r mE mN mC : Nat) (lc : List (Str × Value)) (C0 : List (Str × ATy)) (ns : Str) (V0 : List (Str × ATy)) (k : Nat) : Prop :=
  ∃ left C' lv', left.length = k ∧ KIter Value.string wr mc r lc left ∧ Keep (· = mC) w wr ∧ r < wr.heap.size ∧ KMap Value.string wr mC lv' ∧ MapRel (ATyIs w (RSD M mE mN mC)) C' lv' ∧
    (∀ n t, (n, t) ∈ C0 → n ∉ left.map (·.1) → kget C' (qual ns n) = some t) ∧ (∀ x, (∀ n t, (n, t) ∈ C0 → n ∉ left.map (·.1) → x ≠ qual ns n) → kget C' x = kget V0 x)

/-- What registering returns. -/
def RegOut (M : Nat → Prop) (b mE mN mC : Nat) (V : Env) (ns : Str) (le ln : List (Str × Value)) (C0 : List (Str × ATy)) (e : Ending) (w' : World) : Prop :=
  if le.any (fun p => (kget ln p.1).isSome) = true then ∃ a, e = .returned (.iface 296 (.pointer (some a)))
  else e = .returned .nilIface ∧ ∃ V', RS w' M b mE mN mC V' ∧ EnvAdd V ns (le.map (·.1)) (ln.map (·.1)) C0 V'

set_option maxRecDepth 100000 in
set_option maxHeartbeats 4000000 in
theorem registerDecls_c (w : World) (M : Nat → Prop) (b mE mN mC : Nat) (V : Env) (hS : RS w M b mE mN mC V) (ns : Str) (hns : ns.size ≤ 1000000)
    (me mn mc : Option Nat) (le ln lc : List (Str × Value)) (C0 : List (Str × ATy)) (he : KMapO Value.string w me le) (hn : KMapO Value.string w mn ln) (hc : KMapO Value.string w mc lc)
    (hme : ∀ i, me = some i → ¬ RSD M mE mN mC i) (hmn : ∀ i, mn = some i → ¬ RSD M mE mN mC i) (hmc : ∀ i, mc = some i → ¬ RSD M mE mN mC i)
    (hse : ∀ p ∈ le, p.1.size ≤ 1000000) (hsn : ∀ p ∈ ln, p.1.size ≤ 1000000) (hsc : ∀ p ∈ lc, p.1.size ≤ 1000000) (hvn : ∀ p ∈ ln, EnumV p.2) (hvc : MapRel (CommonIs w (RSD M mE mN mC)) C0 lc) :
    Calls Tryz.prog 51 #[.pointer (some ⟨b, 0, none⟩), .string ns, .map me, .map mn, .map mc] w fun e w' =>
      RegOut M b mE mN mC V ns le ln C0 e w' ∧
      Keep (fun i => i = mE ∨ i = mN ∨ i = mC) w w' := by
  obtain ⟨o, hrun, hit⟩ := he.range (w := w) Tryz.underlying127
  have HI := Lib.hid hit
  have HA := Lib.hid (And.intro hS (And.intro he (And.intro hn (And.intro hc (And.intro hme (And.intro hmn (And.intro hmc (And.intro hse (And.intro hsn (And.intro hsc (And.intro hvn hvc)))))))))))
  clear hit hS he hn hc hme hmn hmc hse hsn hsc hvn hvc
  go_enter Tryz.func51, Tryz.ntmps51
  go_wp2_with fail
  go_loopg [] le.length (fun k wr => Reg1 w wr (· = mE) me w.heap.size mE le ln ns V.E k)
  case atStart =>
    obtain ⟨hS, he, hn, hc, hme, hmn, hmc, hse, hsn, hsc, hvn, hvc⟩ := HA.out
    exact ⟨le, V.E, rfl, HI.out, Keep.alloc _ _ _, by simp, hS.ents.keep (Keep.alloc _ _ NoB) (NoB.not _), fun x => ⟨.inl, fun h => h.elim id fun ⟨p, hp, h1, _⟩ => (h1 (List.mem_map.2 ⟨p, hp, rfl⟩)).elim⟩, fun p hp h => (h (List.mem_map.2 ⟨p, hp, rfl⟩)).elim⟩
  case round =>
    obtain ⟨left, E', e1, hit, hk, hr, hE, hmem, hno⟩ := hrel
    have HL := Lib.hid (And.intro e1 (And.intro hk (And.intro hr (And.intro hE (And.intro hmem hno)))))
    clear HI hrun e1 hk hr hE hmem hno
    rcases hit.next (P := Tryz.prog) (fun h => by cases h; rfl) 0 with ⟨rfl, hnext⟩ | ⟨p, left', w', hp, hnext, hentry, hit', hk', hsz'⟩
    · have HN := Lib.hid hnext
      clear hit hnext
      obtain ⟨hS, he, hn, hc, hme, hmn, hmc, hse, hsn, hsc, hvn, hvc⟩ := HA.out
      obtain ⟨e1, hk, hr, hE, hmem, hno⟩ := HL.out
      have hn' : KMapO Value.string wr mn ln := hn.keep hk (fun i e h => hmn i e (.inr (.inl h)))
      obtain ⟨o2, hrun2, hit2⟩ := hn'.range (w := wr) Tryz.underlying129
      have HI2 := Lib.hid hit2
      have hnext := HN.out
      clear e1 hk hr hE hmem hno hn' hS he hn hc hme hmn hmc hse hsn hsc hvn hvc hit2
      go_wp2_with fail
      clear hnext hrun2
      obtain ⟨wo, rfl⟩ : ∃ wo : World, wo = wr := ⟨_, rfl⟩
      go_loopg [] ln.length (fun k w2 => Reg2 wo w2 (· = mN) mn wo.heap.size mN ln ns V.N k)
      case atStart =>
        obtain ⟨hS, he, hn, hc, hme, hmn, hmc, hse, hsn, hsc, hvn, hvc⟩ := HA.out
        obtain ⟨e1, hk, hr, hE, hmem, hno⟩ := HL.out
        exact ⟨ln, V.N, rfl, HI2.out, Keep.alloc _ _ _, by simp, (hS.enums.keep (hk.then (Keep.alloc _ _ NoB)) (fun h => hS.apart.1 h.symm)), fun x => ⟨.inl, fun h => h.elim id fun ⟨p, hp, h1, _⟩ => (h1 (List.mem_map.2 ⟨p, hp, rfl⟩)).elim⟩⟩
      case round =>
        obtain ⟨left, N', e2, hit, hk2, hr2, hN, hmem2⟩ := hrel
        have HL2 := Lib.hid (And.intro e2 (And.intro hk2 (And.intro hr2 (And.intro hN hmem2))))
        clear HI2 e2 hk2 hr2 hN hmem2
        rcases hit.next (P := Tryz.prog) (fun h => by cases h; rfl) 0 with ⟨rfl, hnext⟩ | ⟨p, left', w', hp, hnext, hentry, hit', hk', hsz'⟩
        · have HN2 := Lib.hid hnext
          clear hit hnext
          obtain ⟨hS, he, hn, hc, hme, hmn, hmc, hse, hsn, hsc, hvn, hvc⟩ := HA.out
          obtain ⟨e1, hk, hr, hE, hmem, hno⟩ := HL.out
          obtain ⟨e2, hk2, hr2, hN, hmem2⟩ := HL2.out
          have kA : Keep (fun i => i = mE ∨ i = mN) w wr := hk.trans hk2 (fun _ _ h => .inl h) (fun _ _ h => .inr h)
          have hc' : KMapO Value.string wr mc lc := hc.keep kA (fun i e h => hmc i e (h.elim (fun h => .inr (.inl h)) (fun h => .inr (.inr (.inl h)))))
          obtain ⟨o3, hrun3, hit3⟩ := hc'.range (w := wr) Tryz.underlying133
          have HI3 := Lib.hid hit3
          have HKA := Lib.hid kA
          have hnext := HN2.out
          clear e1 hk hr hE hmem hno e2 hk2 hr2 hN hmem2 kA hc' hS he hn hc hme hmn hmc hse hsn hsc hvn hvc hit3
          go_wp2_with fail
          clear hnext hrun3
          obtain ⟨wp, rfl⟩ : ∃ wp : World, wp = wr := ⟨_, rfl⟩
          go_loopg [] lc.length (fun k w2 => Reg3 wp w2 M mc wp.heap.size mE mN mC lc C0 ns V.C k)
          case atStart =>
            obtain ⟨hS, he, hn, hc, hme, hmn, hmc, hse, hsn, hsc, hvn, hvc⟩ := HA.out
            obtain ⟨lv, hC, hR⟩ := hS.commons
            have kB := HKA.out.then (Keep.alloc wp o3 NoB)
            refine ⟨lc, V.C, lv, rfl, HI3.out, Keep.alloc _ _ _, by simp, hC.keep kB (fun h => h.elim (fun h => hS.apart.2.1 h.symm) (fun h => hS.apart.2.2 h.symm)), hR.mono fun _ _ _ _ q => q.keep HKA.out (fun i _ h => h.elim (fun h => .inr (.inl h)) (fun h => .inr (.inr (.inl h)))) (fun _ _ h => h), fun n t hm h => ?_, fun x _ => rfl⟩
            obtain ⟨v, h1, _⟩ := hvc.rel n t hm
            exact (h (List.mem_map.2 ⟨_, h1, rfl⟩)).elim
          case round =>
            obtain ⟨left, C', lv', e3, hit, hk3, hr3, hC, hR, hCd, hCo⟩ := hrel
            have HL3 := Lib.hid (And.intro e3 (And.intro hk3 (And.intro hr3 (And.intro hC (And.intro hR (And.intro hCd hCo))))))
            clear HI3 e3 hk3 hr3 hC hR hCd hCo
            rcases hit.next (P := Tryz.prog) (fun h => by cases h; rfl) 0 with ⟨rfl, hnext⟩ | ⟨p, left', w', hp, hnext, hentry, hit', hk', hsz'⟩
            · clear hit
              go_wp2_with fail
              go_ret
              obtain ⟨hS, he, hn, hc, hme, hmn, hmc, hse, hsn, hsc, hvn, hvc⟩ := HA.out
              obtain ⟨e1, hk, hr, hE, hmem, hno⟩ := HL.out
              obtain ⟨e2, hk2, hr2, hN, hmem2⟩ := HL2.out
              obtain ⟨e3, hk3, hr3, hC, hR, hCd, hCo⟩ := HL3.out
              have kF : Keep (fun i => i = mE ∨ i = mN ∨ i = mC) w wr := HKA.out.trans hk3 (fun _ _ h => h.elim .inl (fun h => .inr (.inl h))) (fun _ _ h => .inr (.inr h))
              have hbE := cell_ne_map hS.c0 hS.ents
              have hbN := cell_ne_map hS.c0 hS.enums
              obtain ⟨lvC, hC0, _⟩ := hS.commons
              have hbC := cell_ne_map hS.c0 hC0
              have hnb : ¬ (b = mE ∨ b = mN ∨ b = mC) := fun h => by rcases h with h | h | h <;> contradiction
              refine ⟨?_, kF⟩
              have hdup : ¬ (le.any (fun p => (kget ln p.1).isSome) = true) := by
                intro h
                obtain ⟨q, hq, h2⟩ := List.any_eq_true.1 h
                rw [hno q hq (by simp)] at h2; cases h2
              unfold RegOut
              rw [if_neg hdup]
              refine ⟨rfl, ⟨E', N', C'⟩, ⟨kF.cell hS.c0 hnb, kF.cell hS.c1 hnb, kF.cell hS.c2 hnb, hS.nb, hS.nE, hS.nN, hS.nC, hS.apart, ?_, ?_, lv', hC, hR.mono fun _ _ _ _ q => q.keep hk3 (fun i _ h => .inr (.inr (.inr h))) (fun _ _ h => h)⟩, ⟨fun x => ?_, fun x => ?_, fun n t h => hCd n t h (by simp), fun x h => hCo x fun n t h1 _ => h n t h1⟩⟩
              · exact (hE.keep hk2 hS.apart.1).keep hk3 hS.apart.2.1
              · exact hN.keep hk3 hS.apart.2.2
              · show x ∈ E' ↔ _
                rw [hmem]; simp
              · show x ∈ N' ↔ _
                rw [hmem2]; simp
            · obtain ⟨hS, he, hn, hc, hme, hmn, hmc, hse, hsn, hsc, hvn, hvc⟩ := HA.out
              obtain ⟨e3, hk3, hr3, hC, hR, hCd, hCo⟩ := HL3.out
              have hpm : p ∈ lc := hit.sub.subset (hp.mem_iff.2 (.head _))
              have hps := hsc p hpm
              obtain ⟨pk, pv⟩ := p
              obtain ⟨t, hpC⟩ : ∃ t, (pk, t) ∈ C0 := by
                have h1 := subset_back hvc.nodup (b := lc.map (·.1)) (fun y hy => by
                  obtain ⟨q, hq, rfl⟩ := List.mem_map.1 hy
                  obtain ⟨v', h2, _⟩ := hvc.rel q.1 q.2 hq
                  exact List.mem_map.2 ⟨_, h2, rfl⟩) (by simp [hvc.len]) pk (List.mem_map.2 ⟨_, hpm, rfl⟩)
                obtain ⟨⟨k, t⟩, hk, rfl⟩ := List.mem_map.1 h1
                exact ⟨t, hk⟩
              obtain ⟨v', h1, an, tv, rfl, htv⟩ := hvc.rel pk t hpC
              obtain rfl : pv = .agg #[.map an, tv] := key_unique hc.nodup hpm h1
              obtain ⟨T, x, rfl⟩ := htv.iface
              have kw : Keep (· = mC) wp w' := hk3.trans hk' (fun _ _ h => h) (fun i hi h => by subst h; omega)
              have hbE := cell_ne_map hS.c0 hS.ents
              have hbN := cell_ne_map hS.c0 hS.enums
              obtain ⟨lvC, hC0, _⟩ := hS.commons
              have hbC := cell_ne_map hS.c0 hC0
              have c2 := kw.cell (HKA.out.cell hS.c2 (fun h => by rcases h with h | h <;> contradiction)) hbC
              have HK := Lib.hid (And.intro kw (And.intro hpm (And.intro hp (And.intro hit' (And.intro hk' (And.intro hit.sub (And.intro hpC (And.intro htv hsz'))))))))
              clear hbE hbN hbC hC0 e3 hk3 hr3 hC hR hCd hCo hit' hk' hsz' hp hpm kw hS he hn hc hme hmn hmc hse hsn hsc hvn hvc hit h1 htv hpC
              go_wp2_with fail
              refine still_tail 9 (by kernel_rfl) (by kernel_rfl) (fun w3 hw3 => ?_)
              have kd : Keep NoB w' w3 := hw3 ▸ (Keep.alloc _ _ NoB).then (Keep.drew _ _)
              have hc1 : w3.cell? ⟨w'.heap.size, 1, none⟩ = some (.iface T x) := by rw [hw3]; simp
              clear hw3 hnext hentry
              have c2 := kd.cell c2 (NoB.not _)
              simp only [List.take_succ_cons, List.take_zero, List.drop_succ_cons, List.drop_zero]
              repeat still_step
              still_call (qualPath_c ns pk _ hns hps)
              repeat still_step
              refine wpStill_nil ?_
              have hC2 : KMap Value.string w3 mC lv' := (HL3.out.2.2.2.1.keep HK.out.2.2.2.2.1 (fun h => by have := HL3.out.2.2.2.1.lt; obtain ⟨_, q, _⟩ := HA.out.1.commons; have := q.lt; have := HKA.out.size; omega)).keep kd (NoB.not _)
              obtain ⟨o4, hupd, hC3⟩ := hC2.update (strKey Tryz.underlying141) Tryz.underlying207 (qual ns pk) (.iface T x)
              have HE := Lib.hid (And.intro hC2 hC3)
              clear hC2 hC3
              go_wp2_with fail
              go_roundg left'.length
              case measure =>
                obtain ⟨kw, hpm, hp, hit', hk', hsub, _⟩ := HK.out
                have h1 := hp.length_eq
                have h2 := HL3.out.1
                rw [List.length_cons] at h1; omega
              case rel =>
                obtain ⟨kw, hpm, hp, hit', hk', hsub, hpC, htv, hsz'⟩ := HK.out
                obtain ⟨e3, hk3, hr3, hC, hR, hCd, hCo⟩ := HL3.out
                obtain ⟨hS, he, hn, hc, hme, hmn, hmc, hse, hsn, hsc, hvn, hvc⟩ := HA.out
                have k3 : Keep (· = mC) w3 (ChangeMaps.setBlock w3 mC o4) := Keep.setBlock _ _ _ (fun _ => rfl)
                obtain ⟨hkeys, hnew, _⟩ := perm_keys hp ((hsub.map _).nodup hc.nodup)
                have htv2 : ATyIs wp (RSD M mE mN mC) t (.iface T x) := htv.keep HKA.out (fun i _ h => h.elim (fun h => .inr (.inl h)) (fun h => .inr (.inr (.inl h)))) (fun _ _ h => h)
                obtain ⟨_, hC0, _⟩ := hS.commons
                have hlC := hC0.lt
                have hws := HKA.out.size
                refine ⟨left', _, _, rfl, (hit'.keep kd (fun _ _ h => h) (fun h => h)).keep k3 (fun i hi h => hmc i hi (.inr (.inr (.inr h)))) (fun h => by omega), (kw.then kd).trans k3 (fun _ _ h => h) (fun _ _ h => h), ?_, HE.out.2, hR.kput hC.nodup (qual ns pk) htv2, fun n t' hm h => ?_, fun y hy => ?_⟩
                · have := kd.size; have := hk'.size; simp [ChangeMaps.setBlock]; omega
                · rw [kget_kput]
                  split
                  · rename_i e
                    have e := qual_inj e
                    subst e
                    rw [key_unique hvc.nodup hm hpC]
                  · rename_i e
                    exact hCd n t' hm (fun h3 => ((hkeys _).1 h3).elim (fun h4 => e (by rw [h4])) h)
                · rw [kget_kput, if_neg (fun e => hy pk t hpC hnew e.symm)]
                  exact hCo y fun n t' hm h => hy n t' hm fun h3 => h ((hkeys _).2 (.inr h3))
        · obtain ⟨hS, he, hn, hc, hme, hmn, hmc, hse, hsn, hsc, hvn, hvc⟩ := HA.out
          obtain ⟨e1, hk, hr, hE, hmem, hno⟩ := HL.out
          obtain ⟨e2, hk2, hr2, hN, hmem2⟩ := HL2.out
          have hpm : p ∈ ln := hit.sub.subset (hp.mem_iff.2 (.head _))
          have hps := hsn p hpm
          obtain ⟨pk, pv⟩ := p
          have kw : Keep (· = mN) wo w' := hk2.trans hk' (fun _ _ h => h) (fun i hi h => by subst h; omega)
          have hbE := cell_ne_map hS.c0 hS.ents
          have hbN := cell_ne_map hS.c0 hS.enums
          have c1 := kw.cell (hk.cell hS.c1 hbE) hbN
          have HK := Lib.hid (And.intro kw (And.intro hpm (And.intro hp (And.intro hit' (And.intro hk' hit.sub)))))
          clear hbE hbN e1 hk hr hE hmem hno e2 hk2 hr2 hN hmem2 hit' hk' hsz' hp hpm kw hS he hn hc hme hmn hmc hse hsn hsc hvn hvc hit
          go_wp2_with fail
          refine still_tail 7 (by kernel_rfl) (by kernel_rfl) (fun w3 hw3 => ?_)
          have kd : Keep NoB w' w3 := hw3 ▸ Keep.drew _ _
          clear hw3 hnext hentry
          have c1 := kd.cell c1 (NoB.not _)
          simp only [List.take_succ_cons, List.take_zero, List.drop_succ_cons, List.drop_zero]
          repeat still_step
          still_call (qualEnt_c ns pk _ hns hps)
          refine wpStill_nil ?_
          have hE2 : BSet w3 mN N' := (HL2.out.2.2.2.1.keep HK.out.2.2.2.2.1 (fun h => by have := HL2.out.2.2.2.1.lt; have := HA.out.1.enums.lt; have := HL.out.2.1.size; omega)).keep kd (NoB.not _)
          obtain ⟨o2, hupd, hE3⟩ := hE2.update (qual ns pk)
          have HE := Lib.hid (And.intro hE2 hE3)
          clear hE2 hE3
          go_wp2_with fail
          go_roundg left'.length
          case measure =>
            obtain ⟨kw, hpm, hp, hit', hk', hsub⟩ := HK.out
            have h1 := hp.length_eq
            have h2 := HL2.out.1
            rw [List.length_cons] at h1; omega
          case rel =>
            obtain ⟨kw, hpm, hp, hit', hk', hsub⟩ := HK.out
            obtain ⟨e1, hk, hr, hE, hmem, hno⟩ := HL.out
            obtain ⟨e2, hk2, hr2, hN, hmem2⟩ := HL2.out
            obtain ⟨hS, he, hn, hc, hme, hmn, hmc, hse, hsn, hsc, hvn, hvc⟩ := HA.out
            have k3 : Keep (· = mN) w3 (ChangeMaps.setBlock w3 mN o2) := Keep.setBlock _ _ _ (fun _ => rfl)
            have hlN := hS.enums.lt
            have hws := hk.size
            obtain ⟨hkeys, hnew, _⟩ := perm_keys hp ((hsub.map _).nodup hn.nodup)
            refine ⟨left', _, rfl, (hit'.keep kd (fun _ _ h => h) (fun h => h)).keep k3 (fun i hi h => hmn i hi (.inr (.inr (.inl h)))) (fun h => by omega), (kw.then kd).trans k3 (fun _ _ h => h) (fun _ _ h => h), ?_, HE.out.2, fun x => ?_⟩
            · have := kd.size; have := hk'.size; simp [ChangeMaps.setBlock]; omega
            · rw [mem_sins, hmem2]
              constructor
              · rintro ((h | ⟨q, hq, h1, h2⟩) | h)
                · exact .inl h
                · exact .inr ⟨q, hq, fun h3 => h1 ((hkeys _).2 (.inr h3)), h2⟩
                · exact .inr ⟨_, hpm, hnew, h⟩
              · rintro (h | ⟨q, hq, h1, h2⟩)
                · exact .inl (.inl h)
                · by_cases hqk : q.1 = pk
                  · exact .inr (by rw [h2, hqk])
                  · exact .inl (.inr ⟨q, hq, fun h3 => ((hkeys _).1 h3).elim hqk h1, h2⟩)
    · obtain ⟨hS, he, hn, hc, hme, hmn, hmc, hse, hsn, hsc, hvn, hvc⟩ := HA.out
      obtain ⟨e1, hk, hr, hE, hmem, hno⟩ := HL.out
      have hpm : p ∈ le := hit.sub.subset (hp.mem_iff.2 (.head _))
      have hps := hse p hpm
      obtain ⟨pk, pv⟩ := p
      have kw : Keep (· = mE) w w' := hk.trans hk' (fun _ _ h => h) (fun i hi h => by subst h; omega)
      have hn' : KMapO Value.string w' mn ln := hn.keep kw (fun i e h => hmn i e (.inr (.inl h)))
      have hlook := hn'.lookup (strKey Tryz.underlying188) Tryz.underlying129 (z := .agg #[.map none, .slice none 0 0]) (by kernel_rfl) pk true
      cases hg : kget ln pk with
      | some v =>
        obtain ⟨an, a, n, c, rfl⟩ := hvn _ (kget_some hg)
        rw [hg] at hlook
        simp only [if_true, Option.getD_some, Option.isSome_some] at hlook
        have hany : le.any (fun p => (kget ln p.1).isSome) = true := List.any_eq_true.2 ⟨_, hpm, by rw [hg]; rfl⟩
        have HK := Lib.hid (And.intro kw hany)
        clear hg hany e1 hk hr hE hmem hno hit' hk' hsz' hp hpm kw hn' hS he hn hc hme hmn hmc hse hsn hsc hvn hvc hit
        go_wp2_with (go_at_call 76; refine (errorsNew_c _ _).mono ?_; rintro e w' ⟨a, rfl, hk⟩)
        go_ret
        refine ⟨?_, ((HK.out.1.then (Keep.alloc _ _ NoB)).then (by assumption)).mono (fun _ _ h => .inl h)⟩
        unfold RegOut
        rw [if_pos HK.out.2]
        exact ⟨_, rfl⟩
      | none =>
        rw [hg] at hlook
        simp only [if_true, Option.getD_none, Option.isSome_none] at hlook
        have hbE := cell_ne_map hS.c0 hS.ents
        have hbN := cell_ne_map hS.c0 hS.enums
        obtain ⟨lvC, hC, _⟩ := hS.commons
        have hbC := cell_ne_map hS.c0 hC
        have c0 := kw.cell hS.c0 hbE
        have HK := Lib.hid (And.intro kw (And.intro hg (And.intro hpm (And.intro hp (And.intro hit' (And.intro hk' hit.sub))))))
        clear hbE hbN hbC hC hg e1 hk hr hE hmem hno hit' hk' hsz' hp hpm kw hn' hS he hn hc hme hmn hmc hse hsn hsc hvn hvc hit
        go_wp2_with fail
        refine still_tail 7 (by kernel_rfl) (by kernel_rfl) (fun w2 hw2 => ?_)
        have kd : Keep NoB w' w2 := hw2 ▸ (Keep.alloc _ _ NoB).then (Keep.drew _ _)
        clear hw2 hnext hentry hlook
        have c0 := kd.cell c0 (NoB.not _)
        simp only [List.take_succ_cons, List.take_zero, List.drop_succ_cons, List.drop_zero]
        repeat still_step
        still_call (qualEnt_c ns pk _ hns hps)
        refine wpStill_nil ?_
        have hE2 : BSet w2 mE E' := (HL.out.2.2.2.1.keep HK.out.2.2.2.2.2.1 (fun h => by have := HL.out.2.2.2.1.lt; have := HA.out.1.ents.lt; omega)).keep kd (NoB.not _)
        obtain ⟨o2, hupd, hE3⟩ := hE2.update (qual ns pk)
        have HE := Lib.hid (And.intro hE2 hE3)
        clear hE2 hE3
        go_wp2_with fail
        go_roundg left'.length
        case measure =>
          obtain ⟨kw, hg, hpm, hp, hit', hk', hsub⟩ := HK.out
          have h1 := hp.length_eq
          have h2 := HL.out.1
          rw [List.length_cons] at h1; omega
        case rel =>
          obtain ⟨kw, hg, hpm, hp, hit', hk', hsub⟩ := HK.out
          obtain ⟨e1, hk, hr, hE, hmem, hno⟩ := HL.out
          obtain ⟨hS, he, hn, hc, hme, hmn, hmc, hse, hsn, hsc, hvn, hvc⟩ := HA.out
          have k3 : Keep (· = mE) w2 (ChangeMaps.setBlock w2 mE o2) := Keep.setBlock _ _ _ (fun _ => rfl)
          have hlE := hS.ents.lt
          obtain ⟨hkeys, hnew, _⟩ := perm_keys hp ((hsub.map _).nodup he.nodup)
          refine ⟨left', _, rfl, (hit'.keep kd (fun _ _ h => h) (fun h => h)).keep k3 (fun i hi h => hme i hi (.inr (.inl h))) (fun h => by omega), (kw.then kd).trans k3 (fun _ _ h => h) (fun _ _ h => h), ?_, HE.out.2, fun x => ?_, fun q hq hq2 => ?_⟩
          · have := kd.size; have := hk'.size; simp [ChangeMaps.setBlock]; omega
          · rw [mem_sins, hmem]
            constructor
            · rintro ((h | ⟨q, hq, h1, h2⟩) | h)
              · exact .inl h
              · exact .inr ⟨q, hq, fun h3 => h1 ((hkeys _).2 (.inr h3)), h2⟩
              · exact .inr ⟨_, hpm, hnew, h⟩
            · rintro (h | ⟨q, hq, h1, h2⟩)
              · exact .inl (.inl h)
              · by_cases hqk : q.1 = pk
                · exact .inr (by rw [h2, hqk])
                · exact .inl (.inr ⟨q, hq, fun h3 => ((hkeys _).1 h3).elim hqk h1, h2⟩)
          · by_cases hqk : q.1 = pk
            · rw [hqk]; exact hg
            · exact hno q hq (fun h3 => ((hkeys _).1 h3).elim hqk hq2)
end Go.Proofs.YtedgonoeeeiilaaGreatDoor
