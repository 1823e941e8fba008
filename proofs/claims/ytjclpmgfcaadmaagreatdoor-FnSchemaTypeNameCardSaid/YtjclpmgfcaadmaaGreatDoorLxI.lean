/- The schema's lexer: which runes stand in identifiers; keywords. -/
import Derived.Test.YtjclpmgfcaadmaaGreatDoorBlA
import Derived.Test.YtjclpmgfcaadmaaGreatDoorLxP
import Derived.Test.YtjclpmgfcaadmaaGreatDoorSpec
namespace Go.Proofs.YtjclpmgfcaadmaaGreatDoor
open Go.RowKit

theorem toList_ne {s t : Str} (h : s ≠ t) : (s.toList == t.toList) = false := by
  rw [Bool.eq_false_iff]; exact fun e => h (toList_beq.1 e)
theorem toList_bne {s t : Str} (h : s ≠ t) : (s.toList != t.toList) = true := by
  unfold bne; rw [toList_ne h]; rfl
theorem cellIn {w : World} {b : Nat} {cs : Array Value} {e : TypeId} {fz : Nat × Nat} (h : w.heap[b]? = some (.cells cs e fz)) (i : Nat) : w.cell? ⟨b, i, none⟩ = cs[i]? := by
  simp [World.cell?, h]
theorem ret_bool {a b : Bool} (h : a = b) : Ending.returned (.bool a) = Ending.returned (.bool b) := by rw [h]
set_option maxHeartbeats 4000000 in
theorem isStart_c (r : Nat) (w : World) : Calls Tryz.prog 87 #[.int .i32 r] w fun e w' => e = .returned (.bool (isStart r)) ∧ w' = w := by
  obtain ⟨v, hv⟩ : ∃ v, v = isStart r := ⟨_, rfl⟩
  rw [← hv]
  have HV := Lib.hid hv
  clear hv
  go_enter Tryz.func87, Tryz.ntmps87
  go_wp2_with fail
  all_goals
    go_ret
    refine ⟨ret_bool ?_, rfl⟩
    rw [HV.out]
    unfold isStart
    rw [Bool.eq_iff_iff]
    simp
    omega

set_option maxHeartbeats 4000000 in
theorem isCont_c (r : Nat) (w : World) : Calls Tryz.prog 127 #[.int .i32 r] w fun e w' => e = .returned (.bool (isCont r)) ∧ w' = w := by
  obtain ⟨v, hv⟩ : ∃ v, v = isCont r := ⟨_, rfl⟩
  obtain ⟨u, hu⟩ : ∃ u, u = isStart r := ⟨_, rfl⟩
  have HS := Lib.hid (isStart_c r w)
  rw [← hu] at HS
  rw [← hv]
  have HV := Lib.hid (And.intro hv hu)
  clear hv hu
  go_enter Tryz.func127, Tryz.ntmps127
  go_wp2_with fail
  refine HS.out.mono ?_
  rintro e w' ⟨rfl, rfl⟩
  cases u
  all_goals
    go_wp2_with fail
    all_goals
      go_ret
      refine ⟨ret_bool ?_, rfl⟩
      rw [HV.out.1]
      unfold isCont
      rw [← HV.out.2]
      try rw [Bool.eq_iff_iff]
      try simp
      try omega

/-- the keywords -/
def kws : List Str := [⟨#[116, 114, 117, 101]⟩, ⟨#[102, 97, 108, 115, 101]⟩, ⟨#[105, 102]⟩, ⟨#[116, 104, 101, 110]⟩, ⟨#[101, 108, 115, 101]⟩, ⟨#[105, 110]⟩, ⟨#[108, 105, 107, 101]⟩, ⟨#[104, 97, 115]⟩, ⟨#[105, 115]⟩, ⟨#[95, 95, 99, 101, 100, 97, 114]⟩]
/-- A slice of strings in memory. -/
def StrsIn (w : World) (bb : Nat) (l : List Str) : Prop := ∀ j x, l[j]? = some x → w.cell? ⟨bb, j, none⟩ = some (.string x)
theorem StrsIn.keep {w w' : World} {bb : Nat} {l : List Str} {M : Nat → Prop} (h : StrsIn w bb l) (k : Keep M w w') (hM : ¬ M bb) : StrsIn w' bb l := fun j x hx => k.cell (h j x hx) hM
def firstIdx (l : List Str) (x : Str) : Option Nat := l.findIdx? (fun y => decide (x = y))
set_option maxHeartbeats 4000000 in
theorem slIndex_c {w : World} {bb cap : Nat} {l : List Str} (x : Str) (h : StrsIn w bb l) (hl : l.length ≤ 1000000) :
    Calls Tryz.prog 131 #[.slice (some ⟨bb, 0, none⟩) l.length cap, .string x] w fun e w' => (∃ n : Int, e = .returned (.int .i64 n) ∧ (0 ≤ n ↔ x ∈ l)) ∧ w' = w := by
  obtain ⟨n, hn⟩ : ∃ n, n = l.length := ⟨_, rfl⟩
  have H := Lib.hid (And.intro h hn)
  rw [← hn] at hl ⊢
  clear h hn
  go_enter Tryz.func131, Tryz.ntmps131
  go_wp2_with fail
  go_loopg [8] n (fun g i wr => ∃ j : Nat, j + g = n ∧ i = .int .i64 j ∧ (∀ k, k < j → ∀ y, l[k]? = some y → x ≠ y) ∧ wr = w)
  case atStart => exact ⟨0, by omega, rfl, fun k hk => by omega, rfl⟩
  case round =>
    obtain ⟨j, hj, rfl, hne, hwr⟩ := hrel
    obtain rfl : w = wr := hwr.symm
    have HN := Lib.hid hne
    clear hwr hne
    by_cases hlt : j < n
    · have h1 : (j : Int) < (n : Int) := by omega
      obtain ⟨y, hy⟩ : ∃ y, l[j]? = some y := ⟨_, List.getElem?_eq_getElem (by rw [← H.out.2]; exact hlt)⟩
      have hc := H.out.1 j y hy
      have HY := Lib.hid hy
      clear hy
      by_cases hxy : x = y
      · subst hxy
        go_wp2_with fail
        go_ret
        exact ⟨⟨j, rfl, ⟨fun _ => List.mem_of_getElem? HY.out, fun _ => by omega⟩⟩, rfl⟩
      · have hq := toList_ne hxy
        have HX := Lib.hid hxy
        clear hxy
        go_wp2_with fail
        go_roundg (gk - 1)
        case measure => omega
        case rel =>
          refine ⟨j + 1, by omega, by go_num, fun k hk y' hy' => ?_, rfl⟩
          rcases Nat.lt_or_ge k j with h | h
          · exact HN.out k h y' hy'
          · obtain rfl : k = j := by omega
            rw [HY.out] at hy'
            cases hy'
            exact HX.out
    · have h1 : ¬ (j : Int) < (n : Int) := by omega
      go_wp2_with fail
      go_ret
      refine ⟨⟨-1, rfl, by omega, fun hm => ?_⟩, rfl⟩
      obtain ⟨k, hk, e⟩ := List.getElem_of_mem hm
      exact (HN.out k (by rw [← H.out.2] at hk; omega) x (by rw [List.getElem?_eq_getElem hk, e]) rfl).elim
set_option maxHeartbeats 4000000 in
theorem slContains_c {w : World} {bb cap : Nat} {l : List Str} (x : Str) (h : StrsIn w bb l) (hl : l.length ≤ 1000000) :
    Calls Tryz.prog 96 #[.slice (some ⟨bb, 0, none⟩) l.length cap, .string x] w fun e w' => e = .returned (.bool (decide (x ∈ l))) ∧ w' = w := by
  obtain ⟨v, hv⟩ : ∃ v, v = decide (x ∈ l) := ⟨_, rfl⟩
  have HI := Lib.hid (slIndex_c (cap := cap) x h hl)
  rw [← hv]
  have HV := Lib.hid hv
  clear hv h
  go_enter Tryz.func96, Tryz.ntmps96
  go_wp2_with fail
  refine HI.out.mono ?_
  rintro e w1 ⟨⟨n, rfl, hn⟩, rfl⟩
  have HN := Lib.hid hn
  clear hn
  by_cases h0 : 0 ≤ n
  · go_wp2_with fail
    go_ret
    refine ⟨ret_bool ?_, rfl⟩
    rw [HV.out, decide_eq_true (HN.out.1 h0)]
  · have h1 : n < 0 := by omega
    go_wp2_with fail
    go_ret
    refine ⟨ret_bool ?_, rfl⟩
    rw [HV.out, decide_eq_false (show ¬ x ∈ l from fun h => by have := HN.out.2 h; omega)]
    first | rfl | exact decide_eq_false (by omega)
set_option maxHeartbeats 4000000 in
theorem isReserved_c (x : Str) (w : World) : Calls Tryz.prog 89 #[.string x] w fun e w' => e = .returned (.bool (decide (x ∈ kws))) ∧ Keep NoB w w' := by
  have hk : Calls Tryz.prog 128 #[] w fun e w' => (∃ bb cap, e = .returned (.slice (some ⟨bb, 0, none⟩) kws.length cap) ∧ StrsIn w' bb kws) ∧ Keep NoB w w' := by
    go_enter Tryz.func128, Tryz.ntmps128
    go_wp2_with fail
    go_ret
    refine ⟨⟨_, _, rfl, fun j x hx => ?_⟩, Keep.alloc _ _ _⟩
    have hlt : j < 10 := (List.getElem?_eq_some_iff.1 hx).1
    rw [show ∀ (cs : Array Value) (i : Nat), (w.alloc (.cells cs 9)).cell? ⟨w.heap.size, i, none⟩ = cs[i]? from fun cs i => cellIn (MapKept.heap_alloc w (.cells cs 9)).1 i]
    match j, hlt with
    | 0, _ => cases hx; rfl
    | 1, _ => cases hx; rfl
    | 2, _ => cases hx; rfl
    | 3, _ => cases hx; rfl
    | 4, _ => cases hx; rfl
    | 5, _ => cases hx; rfl
    | 6, _ => cases hx; rfl
    | 7, _ => cases hx; rfl
    | 8, _ => cases hx; rfl
    | 9, _ => cases hx; rfl
  have HK := Lib.hid hk
  clear hk
  go_enter Tryz.func89, Tryz.ntmps89
  go_wp2_with fail
  refine HK.out.mono ?_
  rintro e w1 ⟨⟨bb, cap, rfl, h1⟩, k1⟩
  have H1 := Lib.hid (And.intro h1 k1)
  clear h1 k1
  go_wp2_with fail
  refine (slContains_c (cap := cap) x H1.out.1 (by decide)).mono ?_
  rintro e w2 ⟨rfl, rfl⟩
  go_wp2_with fail
  go_ret
  exact ⟨rfl, H1.out.2⟩
end Go.Proofs.YtjclpmgfcaadmaaGreatDoor
