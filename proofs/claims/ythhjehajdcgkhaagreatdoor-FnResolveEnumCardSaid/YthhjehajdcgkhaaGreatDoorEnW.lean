/- FnResolveEnum: the walk of the law. -/
import Derived.Test.YthhjehajdcgkhaaGreatDoorEnP
import Derived.Test.YthhjehajdcgkhaaGreatDoorShW
import Derived.Test.YthhjehajdcgkhaaGreatDoorLet
import Derived.Test.YthhjehajdcgkhaaGreatDoorRk
namespace Go.Proofs.YthhjehajdcgkhaaGreatDoor
open Go.RowKit

theorem catF_bound {α : Type} (f : α → Str) (B : Nat) (l : List α) (h : ∀ x ∈ l, (f x).size ≤ B) : (catF f l).size ≤ l.length * B := by
  have hg : ∀ (l : List α), (∀ x ∈ l, (f x).size ≤ B) → ∀ a : Str, (l.foldl (fun acc x => acc ++ f x) a).size ≤ a.size + l.length * B := by
    intro l
    induction l with
    | nil => intro _ a; simp
    | cons x l ih =>
      intro h a
      have h1 := ih (fun y hy => h y (List.mem_cons_of_mem _ hy)) (a ++ f x)
      have h2 := h x (by simp)
      rw [ByteArray.size_append] at h1
      simp only [List.foldl_cons, List.length_cons, Nat.add_mul, Nat.one_mul]
      omega
  have h1 := hg l h ⟨#[]⟩
  have h2 : (⟨#[]⟩ : Str).size = 0 := rfl
  unfold catF
  omega
/-- What is laid ahead of the call. -/
abbrev enO1 (nm : Str) (o : Option Addr) (n c : Nat) : Obj := .cells #[.string nm, .slice o n c] 67
abbrev enO2 (k : Nat) : Obj := .cells #[.string ⟨#[78, 58, 58, 77]⟩, .slice none 0 0, .slice (some ⟨k, 0, none⟩) 1 1, .slice none 0 0, .slice none 0 0] 45
abbrev enW (w : World) (o : Option Addr) (n c : Nat) : World := (w.alloc (enO1 ⟨#[69]⟩ o n c)).alloc (enO2 w.heap.size)
theorem en_all (w : World) (vs : List Str) (o : Option Addr) (n c : Nat) (h : StrsAt w NoB vs (.slice o n c)) (hl : vs.length ≤ 20) :
    IAll (enW w o n c) NoB (enL vs) (enD vs) (some ⟨w.heap.size + 1, 0, none⟩) ∧ Keep NoB w (enW w o n c) := by
  obtain ⟨O1, hO1⟩ : ∃ O, O = enO1 ⟨#[69]⟩ o n c := ⟨_, rfl⟩
  obtain ⟨O2, hO2⟩ : ∃ O, O = enO2 w.heap.size := ⟨_, rfl⟩
  unfold enW
  rw [← hO1, ← hO2]
  have k1 : Keep NoB w (w.alloc O1) := Keep.alloc _ _ _
  have k2 : Keep NoB (w.alloc O1) ((w.alloc O1).alloc O2) := Keep.alloc _ _ _
  have hb1 := k2.heap (MapKept.heap_alloc w O1).1 (NoB.not _)
  have hb2 := (MapKept.heap_alloc (w.alloc O1) O2).1
  rw [World.size_alloc] at hb2
  have hv : StrsAt ((w.alloc O1).alloc O2) NoB vs (.slice o n c) := StrsAt.keep.k (k1.then k2) (fun _ _ h => h) (fun _ _ h => h) h
  have hn : n = vs.length := by
    obtain ⟨ov, cc, he, _⟩ := h
    simp only [Value.slice.injEq] at he
    exact he.2.1
  refine ⟨?_, k1.then k2⟩
  generalize ((w.alloc O1).alloc O2) = W at *
  clear k1 k2
  subst hO1 hO2
  refine ⟨by simp [enL], by rw [en_named]; simp, fun S hS _ => ?_, fun S hS => ?_, .inr ⟨_, 0, rfl, fun i S hi => ?_⟩⟩
  · simp only [enL, List.mem_singleton] at hS
    subst hS
    rfl
  · simp only [enL, List.mem_singleton] at hS
    subst hS
    show (⟨#[78, 58, 58, 77]⟩ : Str).size ≤ _
    decide
  · match i with
    | 0 =>
      simp only [enL, List.getElem?_cons_zero, Option.some.injEq] at hi
      subst hi
      refine ⟨(none, 0, 0), (some ⟨w.heap.size, 0, none⟩, 1, 1), (none, 0, 0), (none, 0, 0), cellsAt_of_block hb2, ?_⟩
      refine ⟨rfl, rfl, rfl, rfl, by simp, by simp, by simp, by simp, fun p hp => by simp at hp, fun p hp => ?_, .inl rfl, .inr ⟨_, 0, rfl, fun i nm xs hi => ?_⟩⟩
      · simp only [List.mem_singleton] at hp
        subst hp
        exact ⟨by show (⟨#[69]⟩ : Str).size ≤ _; decide, by show vs.length ≤ _; omega⟩
      · match i with
        | 0 =>
          simp only [List.getElem?_cons_zero, Option.some.injEq, Prod.mk.injEq] at hi
          obtain ⟨rfl, rfl⟩ := hi
          exact ⟨(o, n, c), cellsAt_of_block hb1, hn, hv⟩
        | i + 1 => simp at hi
    | i + 1 => simp [enL] at hi
/-- The enumeration that the law itself writes. -/
theorem en_row (w : World) (vs : List Str) (o : Option Addr) (n c : Nat) (h : StrsAt w NoB vs (.slice o n c)) :
    RowAt EnumC 2 (w.alloc (enO1 ⟨#[78, 58, 58, 77, 58, 58, 69]⟩ o n c)) NoB [(⟨#[78, 58, 58, 77, 58, 58, 69]⟩, vs)] (some ⟨w.heap.size, 0, none⟩, 1, 1) := by
  refine ⟨rfl, .inr ⟨_, 0, rfl, NoB.not _, fun i x hx => ?_⟩⟩
  match i with
  | 0 =>
    simp only [List.getElem?_cons_zero, Option.some.injEq] at hx
    subst hx
    exact ⟨_, rfl, cellsAt_of_block (MapKept.heap_alloc w _).1, (o, n, c), rfl, StrsAt.keep.k (Keep.alloc _ _ NoB) (fun _ _ h => h) (fun _ _ h => h) h⟩
  | i + 1 => simp at hx
theorem en_size (vs : List Str) (hl : vs.length ≤ 20) (hz : ∀ x ∈ vs, x.size ≤ 50) : (catF enumP [(⟨#[78, 58, 58, 77, 58, 58, 69]⟩, vs)]).size ≤ 400000 ∧ (catK vs).size ≤ 900000 := by
  have h1 := catF_bound frm 58 vs fun x hx => by
    have h2 := hz x hx
    have h3 := frm_size (s := x) (by omega)
    omega
  have h4 : (catK vs).size ≤ 1160 := Nat.le_trans h1 (by omega)
  refine ⟨?_, by omega⟩
  have h5 := frm_size (s := catK vs) (by omega)
  have h6 := frm_size (s := ⟨#[78, 58, 58, 77, 58, 58, 69]⟩) (by decide)
  have h7 : (⟨#[78, 58, 58, 77, 58, 58, 69]⟩ : Str).size = 7 := by decide
  have h8 := catF_bound enumP 400000 [(⟨#[78, 58, 58, 77, 58, 58, 69]⟩, vs)] fun x hx => by
    simp only [List.mem_singleton] at hx
    subst hx
    unfold enumP namesK
    rw [ByteArray.size_append]
    show (frm ⟨#[78, 58, 58, 77, 58, 58, 69]⟩).size + (frm (catK vs)).size ≤ _
    omega
  simpa using h8
theorem keys_none (w : World) (M : Nat → Prop) (kE : IEnt → Str) : EntKeys w M kE [] := fun p hp => by simp at hp

set_option maxRecDepth 100000 in
set_option maxHeartbeats 8000000 in
theorem enum_c (vs : List Str) (o : Option Addr) (n c : Nat) (w : World) (h : StrsAt w NoB vs (.slice o n c)) (hT : Tabs w) :
    Calls Tryz.prog 8 #[.slice o n c] w fun e w' => e = .returned (.bool true) ∧ Keep NoB w w' := by
  have hn : n = vs.length := by
    obtain ⟨ov, cc, he, _⟩ := h
    simp only [Value.slice.injEq] at he
    exact he.2.1
  have HA := Lib.hid (And.intro hn (And.intro h hT))
  clear hT hn h
  go_enter Tryz.func8, Tryz.ntmps8
  go_wp2_with fail
  refine (fits9_c NoB vs o n c _ HA.out.2.1).mono ?_
  rintro e w1 ⟨⟨b, rfl⟩, hw⟩
  replace hw := hw.symm
  subst hw
  cases b
  · go_wp2_with fail
    go_ret
    exact ⟨rfl, Keep.refl _ _⟩
  by_cases h0 : n = 0
  · subst h0
    go_wp2_with fail
    go_ret
    exact ⟨rfl, Keep.refl _ _⟩
  by_cases h20 : 20 < n
  · have h1 : (20 : Int) < (n : Int) := by omega
    have h2 : ¬ (n : Int) = 0 := by omega
    go_wp2_with fail
    go_ret
    exact ⟨rfl, Keep.refl _ _⟩
  have h1 : ¬ (20 : Int) < (n : Int) := by omega
  have h2 : ((n : Int) == 0) = false := beq_false_of_ne (by omega)
  go_wp2_with fail
  go_loopg [3] n (fun g i wr => ∃ j : Nat, j + g = n ∧ i = .int .i64 j ∧ (∀ q, q < j → (vs.getD q ⟨#[]⟩).size ≤ 50) ∧ Keep NoB w wr)
  case atStart => exact ⟨0, by omega, rfl, fun q hq => by omega, Keep.refl _ _⟩
  case round =>
    obtain ⟨j, hj, rfl, hq, hk⟩ := hrel
    have HK := Lib.hid (And.intro hq hk)
    clear hk hq
    by_cases hlt : j < n
    · obtain ⟨hn, ⟨ov, cc, he, hc⟩, hT⟩ := HA.out
      simp only [Value.slice.injEq] at he
      obtain ⟨rfl, he2, rfl⟩ := he
      rcases hc with h0' | ⟨bv, offv, rfl, hMv, hcell⟩
      · omega
      have hcv := (hcell j (by omega)).2.keep HK.out.2 (NoB.not _) 0 _ rfl
      simp only [Nat.mul_one, Nat.add_zero] at hcv
      obtain ⟨vj, hvj⟩ : ∃ vj, vj = vs.getD j ⟨#[]⟩ := ⟨_, rfl⟩
      rw [← hvj] at hcv
      have HV := Lib.hid hvj
      clear hn hT he2 hMv hcell hvj
      by_cases h50 : 50 < vj.size
      · have h3 : (50 : Int) < (vj.size : Int) := by omega
        go_wp2_with fail
        go_ret
        exact ⟨rfl, HK.out.2⟩
      · have h3 : ¬ (50 : Int) < (vj.size : Int) := by omega
        go_wp2_with fail
        refine (letters_c vj (by omega) _ (HA.out.2.2.keep HK.out.2)).mono ?_
        rintro e w3 ⟨⟨b, rfl⟩, k3⟩
        have K3 := Lib.hid k3
        clear k3 hcv
        cases b
        · go_wp2_with fail
          go_ret
          exact ⟨rfl, HK.out.2.then K3.out⟩
        · go_wp2_with fail
          go_roundg (gk - 1)
          case measure => omega
          case rel =>
            refine ⟨j + 1, by omega, by go_num, fun q hq => ?_, HK.out.2.then K3.out⟩
            rcases Nat.lt_or_ge q j with h | h
            · exact HK.out.1 q h
            · obtain rfl : q = j := by omega
              rw [← HV.out]; omega
    · have hjm : j = n := by omega
      subst hjm
      have hl : vs.length ≤ 20 := by have := HA.out.1; omega
      have hz : ∀ x ∈ vs, x.size ≤ 50 := fun x hx => by
        obtain ⟨q, hq, rfl⟩ := List.getElem_of_mem hx
        have h5 := HK.out.1 q (by have := HA.out.1; omega)
        rw [List.getD_eq_getElem?_getD, List.getElem?_eq_getElem hq] at h5
        exact h5
      have HZ := Lib.hid (And.intro hl (en_size vs hl hz))
      have hsv : StrsAt wr NoB vs (.slice o j c) := StrsAt.keep.k HK.out.2 (fun _ _ h => h) (fun _ _ h => h) HA.out.2.1
      have hall := en_all wr vs o j c hsv hl
      have HC := Lib.hid (And.intro (implResolve_c _ NoB (enL vs) (enD vs) (some ⟨wr.heap.size + 1, 0, none⟩) 1 hall.1 5 (en_ok vs hl) _ (Keep.refl _ _)) hall.2)
      have HS := Lib.hid hsv
      clear hall hl hz hsv
      go_wp2_with fail
      refine HC.out.1.mono ?_
      intro e w4 hpost
      obtain ⟨sE, sN, sA, rfl, hrE, hrN, hA0, k4⟩ := en_post vs hpost
      obtain ⟨so, sl, sc⟩ := sE
      obtain ⟨so2, sl2, sc2⟩ := sN
      obtain ⟨so3, sl3, sc3⟩ := sA
      dsimp only at hA0
      subst hA0
      have KW := Lib.hid (HC.out.2.then k4)
      obtain ⟨key, hkey⟩ : ∃ key, key = rK (fun _ => ⟨#[]⟩) [] [(⟨#[78, 58, 58, 77, 58, 58, 69]⟩, vs)] := ⟨_, rfl⟩
      have HR := Lib.hid (show ∀ x, Keep NoB w4 x → Calls Tryz.prog 12 #[.agg #[.slice so sl sc, .slice so2 sl2 sc2, .slice so3 0 sc3]] x fun e w' => e = .returned (.string key) ∧ Keep NoB x w' from fun x kx => by
        rw [hkey]
        exact resolvedKey_c w4 _ _ [] [(⟨#[78, 58, 58, 77, 58, 58, 69]⟩, vs)] so so2 so3 sl sl2 sc sc2 sc3 hrE hrN (keys_none _ _ _) (by simp) (by simp) (fun p hp => by simp only [List.mem_singleton] at hp; subst hp; have := HZ.out.1; show vs.length ≤ _; omega) (by show (⟨#[]⟩ : Str).size ≤ _; decide) HZ.out.2.1 x kx)
      have HR2 := Lib.hid (show ∀ y x, Keep NoB wr y → x = y.alloc (enO1 ⟨#[78, 58, 58, 77, 58, 58, 69]⟩ o j c) → Calls Tryz.prog 12 #[.agg #[.slice none 0 0, .slice (some ⟨y.heap.size, 0, none⟩) 1 1, .slice none 0 0]] x fun e w' => e = .returned (.string key) ∧ Keep NoB x w' from fun y x ky hx => by
        rw [hkey]
        subst hx
        exact resolvedKey_c _ NoB _ [] [(⟨#[78, 58, 58, 77, 58, 58, 69]⟩, vs)] none _ none 0 1 0 1 0 ⟨rfl, .inl rfl⟩ (en_row y vs o j c (StrsAt.keep.k ky (fun _ _ h => h) (fun _ _ h => h) HS.out)) (keys_none _ _ _) (by simp) (by simp) (fun p hp => by simp only [List.mem_singleton] at hp; subst hp; have := HZ.out.1; show vs.length ≤ _; omega) (by show (⟨#[]⟩ : Str).size ≤ _; decide) HZ.out.2.1 _ (Keep.refl _ _))
      clear hpost hrE hrN k4 hkey
      go_wp2_with fail
      refine (HR.out _ (Keep.alloc _ _ _)).mono ?_
      rintro e w5 ⟨rfl, k5⟩
      have K5 := Lib.hid ((Keep.alloc _ _ NoB).then k5)
      clear k5
      go_wp2_with fail
      refine (HR2.out w5 _ (KW.out.then K5.out) rfl).mono ?_
      rintro e w6 ⟨rfl, k6⟩
      have K6 := Lib.hid ((Keep.alloc _ _ NoB).then k6)
      clear k6
      go_wp2_with fail
      go_ret
      exact ⟨rfl, ((HK.out.2.then KW.out).then K5.out).then K6.out⟩
end Go.Proofs.YthhjehajdcgkhaaGreatDoor
