/- Walks of the functions that resolve a name of a type, and a type. -/
import Derived.Test.YtedgonoeeeiilaaGreatDoorWb
import Derived.Test.YtedgonoeeeiilaaGreatDoorShelf
namespace Go.Proofs.YtedgonoeeeiilaaGreatDoor
open Go.RowKit

theorem lastIndex_le (s : Str) (sub : List UInt8) : Lib.lastIndex s.data.toList sub ≤ s.size := by
  unfold Lib.lastIndex
  split
  · rename_i h
    rcases Lib.lastOcc_spec s.data.toList sub (s.data.toList.length - sub.length + 1) with ⟨h1, _⟩ | ⟨i, h1, h2, _⟩
    · rw [h1]; omega
    · rw [h2]
      have : s.data.toList.length = s.size := by show s.data.toList.length = s.data.size; simp
      omega
  · omega

theorem nsOf_size (s : Str) : (nsOf s).size ≤ s.size := by
  unfold nsOf
  split
  · simp; omega
  · exact Nat.zero_le _

theorem extractNs_c (s : Str) (w : World) (hs : s.size ≤ 1000000) :
    Calls Tryz.prog 79 #[.string s] w fun e w' => e = .returned (.string (nsOf s)) ∧ w' = w := by
  have hle := lastIndex_le s [58, 58]
  by_cases h : 0 ≤ Lib.lastIndex s.data.toList [58, 58]
  · obtain ⟨n, hn⟩ := Int.eq_ofNat_of_zero_le h
    have hns : nsOf s = s.extract 0 n := by unfold nsOf; rw [if_pos h, hn]; rfl
    rw [hns]
    rw [hn] at hle
    have HN := Lib.hid hn
    have hle2 : n ≤ s.size := by omega
    clear hn hle h hns
    go_enter Tryz.func79, Tryz.ntmps79
    go_wp2_with fail
    refine (Tryz.strings_LastIndex s _ (by omega) _).mono ?_
    rintro e w' ⟨he, rfl⟩
    rw [show (⟨#[58, 58]⟩ : ByteArray).data.toList = [58, 58] from rfl, HN.out] at he
    subst he
    go_wp2
    go_ret
    exact ⟨rfl, rfl⟩
  · have hns : nsOf s = ⟨#[]⟩ := by unfold nsOf; rw [if_neg h]
    rw [hns]
    have h' : Lib.lastIndex s.data.toList [58, 58] < 0 := by omega
    obtain ⟨n, hn⟩ : ∃ n, n = Lib.lastIndex s.data.toList [58, 58] := ⟨_, rfl⟩
    rw [← hn] at h'
    have HN := Lib.hid hn
    clear hn hle h hns
    go_enter Tryz.func79, Tryz.ntmps79
    go_wp2_with fail
    refine (Tryz.strings_LastIndex s _ (by omega) _).mono ?_
    rintro e w' ⟨he, rfl⟩
    rw [show (⟨#[58, 58]⟩ : ByteArray).data.toList = [58, 58] from rfl, ← HN.out] at he
    subst he
    go_wp2
    go_ret
    exact ⟨rfl, rfl⟩

/-- what looking up a common type comes to -/
theorem zeroIface (w : World) : (zeroValue 183).run Tryz.prog w = .ok .nilIface w := by kernel_rfl

theorem commons_look {w : World} {M : Nat → Prop} {mC : Nat} {C : List (Str × ATy)} {lv : List (Str × Value)} (hm : KMap Value.string w mC lv) (hR : MapRel (ATyIs w M) C lv) (x : Str) :
    (∃ t v, kget C x = some t ∧ ATyIs w M t v ∧ (Instr.lookup 207 (.map (some mC)) (.string x) true).run Tryz.prog w = .ok (.tuple #[v, .bool true]) w) ∨
    (kget C x = none ∧ (Instr.lookup 207 (.map (some mC)) (.string x) true).run Tryz.prog w = .ok (.tuple #[.nilIface, .bool false]) w) := by
  have hl := hm.lookup (strKey Tryz.underlying141) Tryz.underlying207 (zeroIface w) x true
  cases hg : kget lv x with
  | none =>
    right
    refine ⟨?_, by rw [hl, hg]; rfl⟩
    cases hc : kget C x with
    | none => rfl
    | some t =>
      obtain ⟨v, h1, _⟩ := hR.rel x t (kget_some hc)
      rw [kget_mem hm.nodup h1] at hg; cases hg
  | some v =>
    left
    have h1 := subset_back hR.nodup (b := lv.map (·.1)) (fun y hy => by
      obtain ⟨p, hp, rfl⟩ := List.mem_map.1 hy
      obtain ⟨v', h2, _⟩ := hR.rel p.1 p.2 hp
      exact List.mem_map.2 ⟨_, h2, rfl⟩) (by simp [hR.len]) x (List.mem_map.2 ⟨_, kget_some hg, rfl⟩)
    obtain ⟨⟨k, t⟩, hk, rfl⟩ := List.mem_map.1 h1
    obtain ⟨v', h2, h3⟩ := hR.rel k t hk
    have : v' = v := key_unique hm.nodup h2 (kget_some hg)
    subst this
    exact ⟨t, v', kget_mem hR.nodup hk, h3, by rw [hl, hg]; rfl⟩

set_option maxRecDepth 100000 in
set_option maxHeartbeats 1000000 in
theorem resQualRef_c (w : World) (M : Nat → Prop) (b mE mN mC : Nat) (V : Env) (h : RS w M b mE mN mC V) (f : Str → ATy → Option (Option RTy))
    (hf : ∀ w' ns t v r, Keep NoB w w' → ns.size ≤ 1000000 → ATyIs w' M t v → f ns t = some r → Calls Tryz.prog 84 #[.pointer (some ⟨b, 0, none⟩), .string ns, v] w' fun e w'' => ResOut w' r e w'' ∧ Keep NoB w' w'')
    (s : Str) (hs : s.size ≤ 1000000) (r : Option RTy) (hr : resQual V f s = some r) :
    Calls Tryz.prog 136 #[.pointer (some ⟨b, 0, none⟩), .string s] w fun e w' => ResOut w r e w' ∧ Keep NoB w w' := by
  obtain ⟨lv, hC, hR⟩ := h.commons'
  obtain ⟨c0, c1, c2, _, _, _, _, _, hE, hN, _⟩ := h
  have lE := hE.lookup
  have lN := hN.lookup
  have HF := Lib.hid hf
  clear hf
  unfold resQual at hr
  by_cases hp : Lib.hasPrefix s.data.toList [95, 95, 99, 101, 100, 97, 114, 58, 58] = true
  · rw [if_pos hp] at hr
    simp only [Option.some.injEq] at hr
    have h9 : 9 ≤ s.size := by
      have := List.IsPrefix.length_le (List.isPrefixOf_iff_prefix.1 hp)
      have h2 : s.data.toList.length = s.size := by show s.data.toList.length = s.data.size; simp
      rw [h2] at this; exact this
    have HB := Lib.hid hr
    have HP := Lib.hid hp
    clear hr hp lE lN hE hN hC hR
    go_enter Tryz.func136, Tryz.ntmps136
    go_wp2_with fail
    refine (Tryz.strings_HasPrefix s _ _).mono ?_
    rintro e w' ⟨he, rfl⟩
    rw [show (⟨#[95, 95, 99, 101, 100, 97, 114, 58, 58]⟩ : ByteArray).data.toList = [95, 95, 99, 101, 100, 97, 114, 58, 58] from rfl, HP.out] at he
    subst he
    go_wp2_with fail
    refine (builtin_c _ _).mono ?_
    rintro e w2 ⟨he, rfl⟩
    rw [HB.out] at he
    cases r with
    | none =>
      obtain rfl : e = _ := he
      go_wp2_with (go_at_call 76; refine (errorsNew_c _ _).mono ?_; rintro e w' ⟨a, rfl, hk⟩)
      go_ret2
      exact ⟨⟨_, _, rfl⟩, by assumption⟩
    | some t =>
      obtain ⟨v, rfl, ⟨T, x, rfl⟩, hv⟩ := he
      have HV := Lib.hid hv
      clear hv
      go_wp2_with fail
      go_ret2
      exact ⟨⟨_, rfl, ⟨_, _, rfl⟩, HV.out _ _⟩, Keep.refl _ _⟩
  · rw [if_neg hp] at hr
    have HP := Lib.hid (Bool.eq_false_iff.2 hp)
    clear hp
    rcases commons_look hC hR s with ⟨t, v, hg, hv, hl⟩ | ⟨hg, hl⟩
    · rw [hg] at hr
      obtain ⟨T, x, rfl⟩ := hv.iface
      have HX := Lib.hid (And.intro hr (And.intro hg hv))
      clear hr hg hv lE lN hE hN hC hR
      go_enter Tryz.func136, Tryz.ntmps136
      go_wp2_with fail
      refine (Tryz.strings_HasPrefix s _ _).mono ?_
      rintro e w' ⟨he, rfl⟩
      rw [show (⟨#[95, 95, 99, 101, 100, 97, 114, 58, 58]⟩ : ByteArray).data.toList = [95, 95, 99, 101, 100, 97, 114, 58, 58] from rfl, HP.out] at he
      subst he
      go_wp2_with fail
      refine (extractNs_c s _ hs).mono ?_
      rintro e w' ⟨rfl, rfl⟩
      go_wp2_with fail
      refine (HF.out _ _ _ _ _ (Keep.refl _ _) (Nat.le_trans (nsOf_size s) hs) HX.out.2.2 HX.out.1).mono ?_
      rintro e w2 ⟨hout, hk⟩
      clear hl
      cases r with
      | none =>
        obtain ⟨x2, a2, rfl⟩ := hout
        go_wp2_with fail
        go_ret2
        exact ⟨⟨_, _, rfl⟩, hk⟩
      | some rt =>
        obtain ⟨v2, rfl, ⟨T2, x2, rfl⟩, hv2⟩ := hout
        have HV := Lib.hid hv2
        clear hv2
        go_wp2_with fail
        go_ret2
        exact ⟨⟨_, rfl, ⟨_, _, rfl⟩, HV.out⟩, hk⟩
    · rw [hg] at hr
      simp only [Option.some.injEq] at hr
      have HX := Lib.hid (And.intro hr hg)
      clear hr hg hE hN hC hR
      go_enter Tryz.func136, Tryz.ntmps136
      go_wp2_with fail
      refine (Tryz.strings_HasPrefix s _ _).mono ?_
      rintro e w' ⟨he, rfl⟩
      rw [show (⟨#[95, 95, 99, 101, 100, 97, 114, 58, 58]⟩ : ByteArray).data.toList = [95, 95, 99, 101, 100, 97, 114, 58, 58] from rfl, HP.out] at he
      subst he
      go_wp2_with (go_at_call 76; refine (errorsNew_c _ _).mono ?_; rintro e w' ⟨a, rfl, hk⟩)
      all_goals go_ret2
      all_goals refine ⟨?_, by first | exact Keep.refl _ _ | assumption⟩
      all_goals (obtain ⟨h1, h2⟩ := HX.out)
      all_goals go_light
      · have hk : V.known s := .inl (by assumption)
        rw [if_pos hk] at h1; subst h1
        exact ⟨_, rfl, ⟨_, _, rfl⟩, .ent s (by omega)⟩
      · have hk : V.known s := .inr (by assumption)
        rw [if_pos hk] at h1; subst h1
        exact ⟨_, rfl, ⟨_, _, rfl⟩, .ent s (by omega)⟩
      · have hk : ¬ V.known s := fun h => by rcases h with h | h <;> contradiction
        rw [if_neg hk] at h1; subst h1
        exact ⟨_, _, rfl⟩

set_option maxRecDepth 100000 in
set_option maxHeartbeats 4000000 in
theorem resTypeRef_c (w : World) (M : Nat → Prop) (b mE mN mC : Nat) (V : Env) (h : RS w M b mE mN mC V) (f : Str → ATy → Option (Option RTy))
    (hf : ∀ w' ns t v r, Keep NoB w w' → ns.size ≤ 1000000 → ATyIs w' M t v → f ns t = some r → Calls Tryz.prog 84 #[.pointer (some ⟨b, 0, none⟩), .string ns, v] w' fun e w'' => ResOut w' r e w'' ∧ Keep NoB w' w'')
    (ns s : Str) (hns : ns.size ≤ 1000000) (hs : s.size ≤ 1000000) (r : Option RTy) (hr : (if hasSub s ⟨#[58, 58]⟩ = true then resQual V f s else resBare V f ns s) = some r) :
    Calls Tryz.prog 113 #[.pointer (some ⟨b, 0, none⟩), .string ns, .string s] w fun e w' => ResOut w r e w' ∧ Keep NoB w w' := by
  by_cases hc : hasSub s ⟨#[58, 58]⟩ = true
  · rw [if_pos hc] at hr
    have HQ := Lib.hid (resQualRef_c w M b mE mN mC V h f hf s hs r hr)
    clear hr hf h
    go_enter Tryz.func113, Tryz.ntmps113
    go_wp2_with fail
    refine (zzContains_c _ _ _ (by show s.size + 2 < _; omega)).mono ?_
    rintro e w' ⟨rfl, rfl⟩
    go_wp2_with fail
    refine HQ.out.mono ?_
    rintro e w' ⟨hout, hk⟩
    cases r with
    | none =>
      obtain ⟨x2, a2, rfl⟩ := hout
      go_wp2_with fail
      go_ret2
      exact ⟨⟨_, _, rfl⟩, hk⟩
    | some rt =>
      obtain ⟨v2, rfl, ⟨T2, x2, rfl⟩, hv2⟩ := hout
      have HV := Lib.hid hv2
      clear hv2
      go_wp2_with fail
      go_ret2
      exact ⟨⟨_, rfl, ⟨_, _, rfl⟩, HV.out⟩, hk⟩
  · rw [if_neg hc] at hr
    have hc := Bool.eq_false_iff.2 hc
    obtain ⟨lv, hC, hR⟩ := h.commons'
    obtain ⟨c0, c1, c2, _, _, _, _, _, hE, hN, _⟩ := h
    have lE := hE.lookup
    have lN := hN.lookup
    have HF := Lib.hid hf
    clear hf
    unfold resBare at hr
    by_cases hn : ns = ByteArray.empty
    · subst hn
      simp only [if_true, not_true_eq_false, false_and, if_false] at hr
      rcases commons_look hC hR s with ⟨t, v, hg, hv, hl⟩ | ⟨hg, hl⟩
      · rw [hg] at hr
        obtain ⟨T, x, rfl⟩ := hv.iface
        have HX := Lib.hid (And.intro hr (And.intro hg hv))
        clear hr hg hv lE lN hE hN hC hR
        go_enter Tryz.func113, Tryz.ntmps113
        go_wp2_with fail
        refine (zzContains_c _ _ _ (by show s.size + 2 < _; omega)).mono ?_
        rintro e w' ⟨rfl, rfl⟩
        go_wp2_with fail
        refine (HF.out _ _ _ _ _ (Keep.refl _ _) (by decide) HX.out.2.2 HX.out.1).mono ?_
        rintro e w2 ⟨hout, hk⟩
        clear hl
        cases r with
        | none =>
          obtain ⟨x2, a2, rfl⟩ := hout
          go_wp2_with fail
          go_ret2
          exact ⟨⟨_, _, rfl⟩, hk⟩
        | some rt =>
          obtain ⟨v2, rfl, ⟨T2, x2, rfl⟩, hv2⟩ := hout
          have HV := Lib.hid hv2
          clear hv2
          go_wp2_with fail
          go_ret2
          exact ⟨⟨_, rfl, ⟨_, _, rfl⟩, HV.out⟩, hk⟩
      · rw [hg] at hr
        simp only [Option.some.injEq] at hr
        have HX := Lib.hid (And.intro hr hg)
        clear hr hg hE hN hC hR
        go_enter Tryz.func113, Tryz.ntmps113
        go_wp2_with fail
        refine (zzContains_c _ _ _ (by show s.size + 2 < _; omega)).mono ?_
        rintro e w' ⟨rfl, rfl⟩
        go_wp2_with fail
        · have hk : V.known s := .inl (by assumption)
          obtain ⟨h1, h2⟩ := HX.out
          rw [if_pos hk] at h1; subst h1
          go_ret2
          exact ⟨⟨_, rfl, ⟨_, _, rfl⟩, .ent s (by omega)⟩, Keep.refl _ _⟩
        · have hk : V.known s := .inr (by assumption)
          obtain ⟨h1, h2⟩ := HX.out
          rw [if_pos hk] at h1; subst h1
          go_ret2
          exact ⟨⟨_, rfl, ⟨_, _, rfl⟩, .ent s (by omega)⟩, Keep.refl _ _⟩
        · have hk : ¬ V.known s := fun h => by rcases h with h | h <;> contradiction
          obtain ⟨h1, h2⟩ := HX.out
          rw [if_neg hk] at h1
          clear h2 HX lE lN hl
          refine (builtin_c _ _).mono ?_
          rintro e w2 ⟨he, rfl⟩
          rw [h1] at he
          clear h1
          cases r with
          | none =>
            obtain rfl : e = _ := he
            go_wp2_with (go_at_call 76; refine (errorsNew_c _ _).mono ?_; rintro e w' ⟨a, rfl, hk⟩)
            go_ret2
            exact ⟨⟨_, _, rfl⟩, by assumption⟩
          | some t =>
            obtain ⟨v, rfl, ⟨T, x, rfl⟩, hv⟩ := he
            have HV := Lib.hid hv
            clear hv
            go_wp2_with fail
            go_ret2
            exact ⟨⟨_, rfl, ⟨_, _, rfl⟩, HV.out _ _⟩, Keep.refl _ _⟩
    · have hq : qual ns s = ns ++ ⟨#[58, 58]⟩ ++ s := by rw [qual, if_neg hn]
      have hn0 := ne_empty hn
      have hqs : (ns ++ (⟨#[58, 58]⟩ : ByteArray) ++ s).size ≤ 3000000 := by
        rw [ByteArray.size_append, ByteArray.size_append]; show ns.size + 2 + s.size ≤ _; omega
      rw [hq] at hr
      simp only [hn, if_false, not_false_eq_true, true_and] at hr
      clear hq
      rcases commons_look hC hR (ns ++ ⟨#[58, 58]⟩ ++ s) with ⟨t, v, hg, hv, hl⟩ | ⟨hg, hl⟩
      · rw [hg] at hr
        obtain ⟨T, x, rfl⟩ := hv.iface
        have HX := Lib.hid (And.intro hr (And.intro hg hv))
        clear hr hg hv lE lN hE hN hC hR hn
        go_enter Tryz.func113, Tryz.ntmps113
        go_wp2_with fail
        refine (zzContains_c _ _ _ (by show s.size + 2 < _; omega)).mono ?_
        rintro e w' ⟨rfl, rfl⟩
        go_wp2_with fail
        refine (HF.out _ _ _ _ _ (Keep.refl _ _) hns HX.out.2.2 HX.out.1).mono ?_
        rintro e w2 ⟨hout, hk⟩
        clear hl
        cases r with
        | none =>
          obtain ⟨x2, a2, rfl⟩ := hout
          go_wp2_with fail
          go_ret2
          exact ⟨⟨_, _, rfl⟩, hk⟩
        | some rt =>
          obtain ⟨v2, rfl, ⟨T2, x2, rfl⟩, hv2⟩ := hout
          have HV := Lib.hid hv2
          clear hv2
          go_wp2_with fail
          go_ret2
          exact ⟨⟨_, rfl, ⟨_, _, rfl⟩, HV.out⟩, hk⟩
      · rw [hg] at hr
        simp only at hr
        have hg0 := Lib.hid hg
        clear hg
        by_cases hkq : V.known (ns ++ ⟨#[58, 58]⟩ ++ s)
        · rw [if_pos hkq] at hr
          simp only [Option.some.injEq] at hr
          have HX := Lib.hid (And.intro hr hkq)
          clear hr hkq hE hN hC hR hn
          go_enter Tryz.func113, Tryz.ntmps113
          go_wp2_with fail
          refine (zzContains_c _ _ _ (by show s.size + 2 < _; omega)).mono ?_
          rintro e w' ⟨rfl, rfl⟩
          obtain ⟨hr, hkq⟩ := HX.out
          have hkq' : ns ++ ⟨#[58, 58]⟩ ++ s ∈ V.E ∨ ns ++ ⟨#[58, 58]⟩ ++ s ∈ V.N := hkq
          clear hkq HX
          subst hr
          rcases hkq' with hkq' | hkq'
          · go_wp2_with fail
            go_ret2
            exact ⟨⟨_, rfl, ⟨_, _, rfl⟩, .ent _ hqs⟩, Keep.refl _ _⟩
          · go_wp2_with fail
            all_goals go_ret2
            all_goals exact ⟨⟨_, rfl, ⟨_, _, rfl⟩, .ent _ hqs⟩, Keep.refl _ _⟩
        · rw [if_neg hkq] at hr
          have hkE : ¬ (ns ++ ⟨#[58, 58]⟩ ++ s ∈ V.E) := fun h => hkq (.inl h)
          have hkN : ¬ (ns ++ ⟨#[58, 58]⟩ ++ s ∈ V.N) := fun h => hkq (.inr h)
          clear hkq hn
          rcases commons_look hC hR s with ⟨t, v, hg, hv, hl2⟩ | ⟨hg, hl2⟩
          · rw [hg] at hr
            obtain ⟨T, x, rfl⟩ := hv.iface
            have HX := Lib.hid (And.intro hr (And.intro hg hv))
            clear hr hg hv hE hN hC hR
            go_enter Tryz.func113, Tryz.ntmps113
            go_wp2_with fail
            refine (zzContains_c _ _ _ (by show s.size + 2 < _; omega)).mono ?_
            rintro e w' ⟨rfl, rfl⟩
            go_wp2_with fail
            refine (HF.out _ _ _ _ _ (Keep.refl _ _) (by decide) HX.out.2.2 HX.out.1).mono ?_
            rintro e w2 ⟨hout, hk⟩
            clear hl hl2
            cases r with
            | none =>
              obtain ⟨x2, a2, rfl⟩ := hout
              go_wp2_with fail
              go_ret2
              exact ⟨⟨_, _, rfl⟩, hk⟩
            | some rt =>
              obtain ⟨v2, rfl, ⟨T2, x2, rfl⟩, hv2⟩ := hout
              have HV := Lib.hid hv2
              clear hv2
              go_wp2_with fail
              go_ret2
              exact ⟨⟨_, rfl, ⟨_, _, rfl⟩, HV.out⟩, hk⟩
          · rw [hg] at hr
            simp only [Option.some.injEq] at hr
            have HX := Lib.hid (And.intro hr hg)
            clear hr hg hE hN hC hR
            go_enter Tryz.func113, Tryz.ntmps113
            go_wp2_with fail
            refine (zzContains_c _ _ _ (by show s.size + 2 < _; omega)).mono ?_
            rintro e w' ⟨rfl, rfl⟩
            go_wp2_with fail
            · have hk : V.known s := .inl (by assumption)
              obtain ⟨h1, h2⟩ := HX.out
              rw [if_pos hk] at h1; subst h1
              go_ret2
              exact ⟨⟨_, rfl, ⟨_, _, rfl⟩, .ent s (by omega)⟩, Keep.refl _ _⟩
            · have hk : V.known s := .inr (by assumption)
              obtain ⟨h1, h2⟩ := HX.out
              rw [if_pos hk] at h1; subst h1
              go_ret2
              exact ⟨⟨_, rfl, ⟨_, _, rfl⟩, .ent s (by omega)⟩, Keep.refl _ _⟩
            · have hk : ¬ V.known s := fun h => by rcases h with h | h <;> contradiction
              obtain ⟨h1, h2⟩ := HX.out
              rw [if_neg hk] at h1
              clear h2 HX lE lN hl hl2
              refine (builtin_c _ _).mono ?_
              rintro e w2 ⟨he, rfl⟩
              rw [h1] at he
              clear h1
              cases r with
              | none =>
                obtain rfl : e = _ := he
                go_wp2_with (go_at_call 76; refine (errorsNew_c _ _).mono ?_; rintro e w' ⟨a, rfl, hk⟩)
                go_ret2
                exact ⟨⟨_, _, rfl⟩, by assumption⟩
              | some t =>
                obtain ⟨v, rfl, ⟨T, x, rfl⟩, hv⟩ := he
                have HV := Lib.hid hv
                clear hv
                go_wp2_with fail
                go_ret2
                exact ⟨⟨_, rfl, ⟨_, _, rfl⟩, HV.out _ _⟩, Keep.refl _ _⟩
end Go.Proofs.YtedgonoeeeiilaaGreatDoor
