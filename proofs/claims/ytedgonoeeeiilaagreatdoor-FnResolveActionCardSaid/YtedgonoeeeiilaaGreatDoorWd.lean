/- The walk of the function that resolves a type. -/
import Derived.Test.YtedgonoeeeiilaaGreatDoorWc
namespace Go.Proofs.YtedgonoeeeiilaaGreatDoor
open Go.RowKit

set_option maxRecDepth 100000 in
set_option maxHeartbeats 4000000 in
theorem resType_c (b mE mN mC : Nat) (V : Env) : ∀ (n : Nat) (w : World) (M : Nat → Prop) (ns : Str) (t : ATy) (v : Value) (r : Option RTy), RS w M b mE mN mC V → ATyIs w M t v → ns.size ≤ 1000000 → resTy V n ns t = some r →
    Calls Tryz.prog 84 #[.pointer (some ⟨b, 0, none⟩), .string ns, v] w fun e w' => ResOut w r e w' ∧ Keep NoB w w' := by
  intro n
  induction n with
  | zero => intro w M ns t v r _ _ _ hr; cases hr
  | succ n ih =>
    intro w M ns t v r hS ht hns hr
    have hf : ∀ w' ns t v r, Keep NoB w w' → ns.size ≤ 1000000 → ATyIs w' M t v → resTy V n ns t = some r → Calls Tryz.prog 84 #[.pointer (some ⟨b, 0, none⟩), .string ns, v] w' fun e w'' => ResOut w' r e w'' ∧ Keep NoB w' w'' :=
      fun w' ns t v r hk h1 h2 h3 => ih w' M ns t v r (hS.keep hk (fun _ _ h => h.elim) (fun _ _ h => h)) h2 h1 h3
    clear ih
    cases ht with
    | str =>
      simp only [resTy, Option.some.injEq] at hr
      subst hr
      clear hf hS
      have y := taY_aStr
      go_enter Tryz.func84, Tryz.ntmps84
      go_wp2_with fail
      go_ret2
      exact ⟨⟨_, rfl, ⟨_, _, rfl⟩, .str⟩, Keep.alloc _ _ _⟩
    | long =>
      simp only [resTy, Option.some.injEq] at hr
      subst hr
      clear hf hS
      have n0 := taN_aStr 239 (by decide)
      have y := taY_aLong
      go_enter Tryz.func84, Tryz.ntmps84
      go_wp2_with fail
      go_ret2
      exact ⟨⟨_, rfl, ⟨_, _, rfl⟩, .long⟩, Keep.alloc _ _ _⟩
    | bool =>
      simp only [resTy, Option.some.injEq] at hr
      subst hr
      clear hf hS
      have n0 := taN_aStr 241 (by decide)
      have n1 := taN_aLong 241 (by decide)
      have y := taY_aBool
      go_enter Tryz.func84, Tryz.ntmps84
      go_wp2_with fail
      go_ret2
      exact ⟨⟨_, rfl, ⟨_, _, rfl⟩, .bool⟩, Keep.alloc _ _ _⟩
    | ext s hs =>
      simp only [resTy, Option.some.injEq] at hr
      subst hr
      clear hf hS
      have n0 := taN_aStr 242 (by decide)
      have n1 := taN_aLong 242 (by decide)
      have n2 := taN_aBool 242 (by decide)
      have y := taY_aExt
      go_enter Tryz.func84, Tryz.ntmps84
      go_wp2_with fail
      go_ret2
      exact ⟨⟨_, rfl, ⟨_, _, rfl⟩, .ext s (by omega)⟩, Keep.refl _ _⟩
    | @set t1 v1 h1 =>
      obtain ⟨T1, x1, rfl⟩ := h1.iface
      simp only [resTy, Option.map_eq_some_iff] at hr
      obtain ⟨r1, hr1, rfl⟩ := hr
      have HX := Lib.hid (And.intro h1 hr1)
      have HF := Lib.hid hf
      clear h1 hr1 hf hS
      have n0 := taN_aStr 244 (by decide)
      have n1 := taN_aLong 244 (by decide)
      have n2 := taN_aBool 244 (by decide)
      have n3 := taN_aExt 244 (by decide)
      have y := taY_aSet
      go_enter Tryz.func84, Tryz.ntmps84
      go_wp2_with fail
      refine (HF.out _ _ t1 _ r1 (Keep.alloc _ _ _) hns (HX.out.1.keep (Keep.alloc _ _ NoB) (fun _ _ h => h.elim) (fun _ _ h => h)) HX.out.2).mono ?_
      rintro e w2 ⟨hout, hk⟩
      cases r1 with
      | none =>
        obtain ⟨x2, a2, rfl⟩ := hout
        go_wp2_with fail
        go_ret2
        exact ⟨⟨_, _, rfl⟩, (Keep.alloc _ _ NoB).then hk⟩
      | some rt =>
        obtain ⟨v2, rfl, ⟨T2, x2, rfl⟩, hv2⟩ := hout
        have HV := Lib.hid hv2
        clear hv2
        go_wp2_with fail
        go_ret2
        exact ⟨⟨_, rfl, ⟨_, _, rfl⟩, .set (HV.out.keep (Keep.refl NoB _) (fun _ _ h => h.elim) (fun i _ h => by show i < (w.alloc _).heap.size; simp; omega))⟩, (Keep.alloc _ _ NoB).then hk⟩
    | @record l lv bm f an hm hM hn hl ha hty =>
      simp only [resTy] at hr
      have HR := Lib.hid (resRecord_c b ns M w (resTy V n ns) (fun w' t v r hk h2 h3 => hf w' ns t v r hk hns h2 h3) l bm (.record hm hM hn hl ha hty) r hr)
      clear hf hS hm hM hn hl ha hty hr
      have n0 := taN_aStr 181 (by decide)
      have n1 := taN_aLong 181 (by decide)
      have n2 := taN_aBool 181 (by decide)
      have n3 := taN_aExt 181 (by decide)
      have n4 := taN_aSet 181 (by decide)
      have y := taY_aRec
      go_enter Tryz.func84, Tryz.ntmps84
      go_wp2_with fail
      refine HR.out.mono ?_
      rintro e w2 ⟨hout, hk⟩
      cases r with
      | none =>
        obtain ⟨a2, rfl⟩ := hout
        go_wp2_with fail
        go_ret2
        exact ⟨⟨_, _, rfl⟩, hk⟩
      | some rt =>
        obtain ⟨b2, rfl, hv2⟩ := hout
        have HV := Lib.hid hv2
        clear hv2
        go_wp2_with fail
        go_ret2
        exact ⟨⟨_, rfl, ⟨_, _, rfl⟩, HV.out⟩, hk⟩
    | ent s hs =>
      simp only [resTy, Option.some.injEq] at hr
      have HR := Lib.hid (resEntRef_c w M b mE mN mC V hS ns s hns hs)
      have hsz : ∀ x, entRef V ns s = some x → x.size ≤ 3000000 := fun x hx => by
        unfold entRef at hx
        have hq : (qual ns s).size ≤ 3000000 := by
          unfold qual
          split
          · omega
          · rw [ByteArray.size_append, ByteArray.size_append]; show ns.size + 2 + s.size ≤ _; omega
        repeat' split at hx
        all_goals first | (cases hx; omega) | (cases hx; exact hq) | cases hx
      generalize entRef V ns s = q at *
      subst hr
      have HZ := Lib.hid hsz
      clear hf hS hsz
      have n0 := taN_aStr 230 (by decide)
      have n1 := taN_aLong 230 (by decide)
      have n2 := taN_aBool 230 (by decide)
      have n3 := taN_aExt 230 (by decide)
      have n4 := taN_aSet 230 (by decide)
      have n5 := taN_aRec 230 (by decide)
      have y := taY_aEnt
      go_enter Tryz.func84, Tryz.ntmps84
      go_wp2_with fail
      refine HR.out.mono ?_
      rintro e w2 ⟨hout, hk⟩
      cases q with
      | none =>
        obtain ⟨a2, rfl⟩ := hout
        go_wp2_with fail
        go_ret2
        exact ⟨⟨_, _, rfl⟩, hk⟩
      | some x =>
        obtain rfl : e = _ := hout
        go_wp2_with fail
        go_ret2
        exact ⟨⟨_, rfl, ⟨_, _, rfl⟩, .ent x (HZ.out x rfl)⟩, hk⟩
    | ref s hs =>
      simp only [resTy] at hr
      have HR := Lib.hid (resTypeRef_c w M b mE mN mC V hS (resTy V n) hf ns s hns hs r hr)
      clear hf hS hr
      have n0 := taN_aStr 246 (by decide)
      have n1 := taN_aLong 246 (by decide)
      have n2 := taN_aBool 246 (by decide)
      have n3 := taN_aExt 246 (by decide)
      have n4 := taN_aSet 246 (by decide)
      have n5 := taN_aRec 246 (by decide)
      have n6 := taN_aEnt 246 (by decide)
      have y := taY_aRef
      go_enter Tryz.func84, Tryz.ntmps84
      go_wp2_with fail
      refine HR.out.mono ?_
      rintro e w2 ⟨hout, hk⟩
      cases r with
      | none =>
        obtain ⟨x2, a2, rfl⟩ := hout
        go_wp2_with fail
        go_ret2
        exact ⟨⟨_, _, rfl⟩, hk⟩
      | some rt =>
        obtain ⟨v2, rfl, ⟨T2, x2, rfl⟩, hv2⟩ := hout
        have HV := Lib.hid hv2
        clear hv2
        go_wp2_with fail
        go_ret2
        exact ⟨⟨_, rfl, ⟨_, _, rfl⟩, HV.out⟩, hk⟩
end Go.Proofs.YtedgonoeeeiilaaGreatDoor
