/- Walks of the small functions of the resolver: names, errors, the types of the language, names of entity types. -/
import Derived.Test.YtedgonoeeeiilaaGreatDoorJBase
import Derived.WalkKit
import Derived.WalkSpells
import Derived.WalkLawsBesides
import Derived.Deep.LoopGhost
import Derived.Deep.Light
import Derived.Lib.Hide
namespace Go.Proofs.YtedgonoeeeiilaaGreatDoor
open Go.RowKit

set_option maxHeartbeats 400000 in
theorem zzIndex_c (s sub : Str) (w : World) (hs : s.size + sub.size < 9223372036854775807) :
    Calls Tryz.prog 135 #[.string s, .string sub] w fun e w' => ∃ n : Int, e = .returned (.int .i64 n) ∧ decide (0 ≤ n) = hasSub s sub ∧ w' = w := by
  go_enter Tryz.func135, Tryz.ntmps135
  go_wp2
  go_loopg [5] (s.size + 1) (fun k i wr => ∃ j : Nat, j + k = s.size + 1 ∧ i = .int .i64 j ∧ wr = w ∧ Aside (∀ q, q < j → subAt s sub q = false))
  case atStart => exact ⟨0, by omega, rfl, rfl, fun q hq => by omega⟩
  case round =>
    obtain ⟨j, hj, rfl, rfl, hA⟩ := hrel
    go_wp2
    · have h1 : (j : Int) + (sub.size : Int) ≤ (s.size : Int) := by assumption
      have h2 : ((s.extract j (j + sub.size)).toList == sub.toList) = true := by assumption
      go_ret
      refine ⟨j, rfl, ?_, rfl⟩
      rw [(hasSub_iff s sub).2 ⟨j, subAt_of_beq h1 h2⟩]
      exact decide_eq_true (by omega)
    · have h1 : (j : Int) + (sub.size : Int) ≤ (s.size : Int) := by assumption
      have h2 : ((s.extract j (j + sub.size)).toList == sub.toList) = false := by assumption
      go_roundg (gk - 1)
      case measure => omega
      case rel =>
        refine ⟨j + 1, by omega, by go_num, rfl, fun q hq => ?_⟩
        rcases Nat.lt_or_ge q j with h | h
        · exact hA.out q h
        · have : q = j := by omega
          rw [this]; exact subAt_of_beq h1 h2
    · have h1 : (s.size : Int) < (j : Int) + (sub.size : Int) := by assumption
      go_ret
      refine ⟨-1, rfl, ?_, rfl⟩
      have : hasSub s sub = false := by
        rw [Bool.eq_false_iff]
        intro h
        obtain ⟨i, hi⟩ := (hasSub_iff s sub).1 h
        rcases Nat.lt_or_ge i j with h' | h'
        · rw [hA.out i h'] at hi; cases hi
        · have := (of_decide_eq_true hi).1; omega
      rw [this]; rfl

theorem zzContains_c (s sub : Str) (w : World) (hs : s.size + sub.size < 9223372036854775807) :
    Calls Tryz.prog 112 #[.string s, .string sub] w fun e w' => e = .returned (.bool (hasSub s sub)) ∧ w' = w := by
  go_enter Tryz.func112, Tryz.ntmps112
  go_wp2_with (go_at_call 135; refine (zzIndex_c _ _ _ hs).mono ?_; rintro e w' ⟨n, rfl, hn, rfl⟩)
  go_ret
  exact ⟨rfl, rfl⟩

theorem errorsNew_c (s : Str) (w : World) :
    Calls Tryz.prog 76 #[.string s] w fun e w' => ∃ a, e = .returned (.iface 296 (.pointer (some a))) ∧ Keep NoB w w' := by
  go_enter Tryz.func76, Tryz.ntmps76
  go_wp2
  go_ret
  exact ⟨_, rfl, Keep.alloc _ _ _⟩

theorem qualPath_c (ns nm : Str) (w : World) (h1 : ns.size ≤ 1000000) (h2 : nm.size ≤ 1000000) :
    Calls Tryz.prog 78 #[.string ns, .string nm] w fun e w' => e = .returned (.string (qual ns nm)) ∧ w' = w := by
  by_cases h : ns = ByteArray.empty
  · subst h
    go_enter Tryz.func78, Tryz.ntmps78
    go_wp2
    go_ret
    exact ⟨rfl, rfl⟩
  · have h0 := ne_empty h
    go_enter Tryz.func78, Tryz.ntmps78
    go_wp2
    go_ret
    exact ⟨by rw [qual, if_neg h]; rfl, rfl⟩

theorem qualEnt_c (ns nm : Str) (w : World) (h1 : ns.size ≤ 1000000) (h2 : nm.size ≤ 1000000) :
    Calls Tryz.prog 77 #[.string ns, .string nm] w fun e w' => e = .returned (.string (qual ns nm)) ∧ w' = w := by
  by_cases h : ns = ByteArray.empty
  · subst h
    go_enter Tryz.func77, Tryz.ntmps77
    go_wp2
    go_ret
    exact ⟨rfl, rfl⟩
  · have h0 := ne_empty h
    go_enter Tryz.func77, Tryz.ntmps77
    go_wp2
    go_ret
    exact ⟨by rw [qual, if_neg h]; rfl, rfl⟩

/-- the type of the actions of a namespace -/
def actionTy (ns : Str) : Str := qual ns ⟨#[65, 99, 116, 105, 111, 110]⟩
theorem qualAction_c (ns : Str) (w : World) (h1 : ns.size ≤ 1000000) :
    Calls Tryz.prog 86 #[.string ns] w fun e w' => e = .returned (.string (actionTy ns)) ∧ w' = w := by
  by_cases h : ns = ByteArray.empty
  · subst h
    go_enter Tryz.func86, Tryz.ntmps86
    go_wp2
    go_ret
    exact ⟨rfl, rfl⟩
  · have h0 := ne_empty h
    go_enter Tryz.func86, Tryz.ntmps86
    go_wp2
    go_ret
    refine ⟨?_, rfl⟩
    have : qual ns ⟨#[65, 99, 116, 105, 111, 110]⟩ = ns ++ ⟨#[58, 58, 65, 99, 116, 105, 111, 110]⟩ := by
      rw [qual, if_neg h, ByteArray.append_assoc]; rfl
    rw [actionTy, this]; rfl

theorem newUID_c (t i : Str) (w : World) :
    Calls Tryz.prog 85 #[.string t, .string i] w fun e w' => e = .returned (.agg #[.string t, .string i]) ∧ Keep NoB w w' := by
  go_enter Tryz.func85, Tryz.ntmps85
  go_wp2
  exact bodyPost_ret (v := .agg #[.string t, .string i]) (by simp [results, Tryz.results85, go_sem]) rfl ⟨rfl, Keep.alloc _ _ _⟩

/-- what the look-up of a type of the language returns -/
def BuiltinIs (o : Option RTy) (e : Ending) : Prop :=
  match o with
  | some t => ∃ v, e = .returned v ∧ (∃ T x, v = .iface T x) ∧ ∀ w M, RTyIs w M t v
  | none => e = .returned .nilIface
set_option maxHeartbeats 1000000 in
theorem builtin_c (s : Str) (w : World) :
    Calls Tryz.prog 137 #[.string s] w fun e w' => BuiltinIs (builtinTy s) e ∧ w' = w := by
  go_enter Tryz.func137, Tryz.ntmps137
  go_wp2
  all_goals go_ret
  all_goals refine ⟨?_, rfl⟩
  all_goals (go_light; simp only [beq_lit, decide_eq_true_eq, decide_eq_false_iff_not] at *)
  all_goals simp_all [BuiltinIs, builtinTy]
  all_goals (intro w' M; first | exact .str | exact .long | exact .bool | exact .ext _ (by decide))

set_option maxHeartbeats 1000000 in
theorem resEntRef_c (w : World) (M : Nat → Prop) (b mE mN mC : Nat) (V : Env) (h : RS w M b mE mN mC V) (ns ref : Str) (h1 : ns.size ≤ 1000000) (h2 : ref.size ≤ 1000000) :
    Calls Tryz.prog 82 #[.pointer (some ⟨b, 0, none⟩), .string ns, .string ref] w fun e w' => ErrOr ((entRef V ns ref).map .string) (.string ⟨#[]⟩) e ∧ Keep NoB w w' := by
  obtain ⟨c0, c1, c2, _, _, _, _, _, hE, hN, hC⟩ := h
  have lE := hE.lookup
  have lN := hN.lookup
  clear hE hN hC
  go_enter Tryz.func82, Tryz.ntmps82
  go_wp2_with (first | (go_at_call 112; refine (zzContains_c _ _ _ (by show ref.size + 2 < _; omega)).mono ?_; rintro e w' ⟨rfl, rfl⟩) | (go_at_call 76; refine (errorsNew_c _ _).mono ?_; rintro e w' ⟨a, rfl, hk⟩))
  all_goals go_ret2
  all_goals refine ⟨?_, by first | exact Keep.refl _ _ | assumption⟩
  all_goals (go_light; clear c0 c1 c2 lE lN; have hemp := isEmpty_iff ns)
  all_goals simp_all [ErrOr, entRef, qual, Env.known]
end Go.Proofs.YtedgonoeeeiilaaGreatDoor
