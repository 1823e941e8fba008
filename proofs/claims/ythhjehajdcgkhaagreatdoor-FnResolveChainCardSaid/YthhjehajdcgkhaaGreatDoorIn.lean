/- The walks of the functions that turn given types into types of the syntax tree. -/
import Derived.Test.YthhjehajdcgkhaaGreatDoorWl
import Derived.BigQuiet
namespace Go.Proofs.YthhjehajdcgkhaaGreatDoor
open Go.RowKit

abbrev Sl := Option Addr × Nat × Nat
abbrev slV (e : Sl) : Value := .slice e.1 e.2.1 e.2.2
abbrev tyV (k : Int) (s : Str) (e a : Sl) : Value := .agg #[.int .i64 k, .string s, .slice e.1 e.2.1 e.2.2, .slice a.1 a.2.1 a.2.2]
/-- A type as it is given. -/
inductive ITyIs (w : World) (M : Nat → Prop) : ATy → Value → Prop
  | str (s : Str) (e a : Sl) : ITyIs w M .str (tyV 1 s e a)
  | long (s : Str) (e a : Sl) : ITyIs w M .long (tyV 2 s e a)
  | bool (s : Str) (e a : Sl) : ITyIs w M .bool (tyV 3 s e a)
  | ext (s : Str) (e a : Sl) : s = ⟨#[100, 101, 99, 105, 109, 97, 108]⟩ ∨ s = ⟨#[100, 97, 116, 101, 116, 105, 109, 101]⟩ ∨ s = ⟨#[100, 117, 114, 97, 116, 105, 111, 110]⟩ ∨ s = ⟨#[105, 112, 97, 100, 100, 114]⟩ → ITyIs w M (.ext s) (tyV 4 s e a)
  | set {t : ATy} (s : Str) (b off c : Nat) (a : Sl) (k' : Int) (s' : Str) (e' a' : Sl) : ¬ M b → CellsAt w b off [.int .i64 k', .string s', slV e', slV a'] → ITyIs w M t (tyV k' s' e' a') → ITyIs w M (.set t) (tyV 5 s (some ⟨b, off, none⟩, 1, c) a)
  | record {l : List (Str × ATy × Bool)} (s : Str) (e : Sl) (ao : Option Addr) (c : Nat) (kf : Nat → Int) (sf : Nat → Str) (ef af : Nat → Sl) : (l.map (·.1)).Nodup → l.length ≤ 1000000 →
      (l = [] ∨ ∃ b off, ao = some ⟨b, off, none⟩ ∧ ¬ M b ∧ ∀ i k t q, l[i]? = some (k, t, q) → CellsAt w b (off + i * 6) [.string k, .bool q, .int .i64 (kf i), .string (sf i), slV (ef i), slV (af i)]) →
      (∀ i k t q, l[i]? = some (k, t, q) → ITyIs w M t (tyV (kf i) (sf i) (ef i) (af i))) → ITyIs w M (.record l) (tyV 6 s e (ao, l.length, c))
  | ent (s : Str) (e a : Sl) : s.size ≤ 1000000 → ITyIs w M (.ent s) (tyV 7 s e a)
  | ref (s : Str) (e a : Sl) : s.size ≤ 1000000 → ITyIs w M (.ref s) (tyV 8 s e a)

theorem ATyIs.mkRecord {w : World} {M : Nat → Prop} {l : List (Str × ATy × Bool)} {lv : List (Str × Value)} {b : Nat} (hm : KMap Value.string w b lv) (hM : ¬ M b) (hn : (l.map (·.1)).Nodup) (hl : lv.length = l.length)
    (h : ∀ k t o, (k, t, o) ∈ l → ∃ v an, (k, .agg #[v, .bool o, .map an]) ∈ lv ∧ ATyIs w M t v) : ATyIs w M (.record l) (.iface 188 (.map (some b))) := by
  have h' : ∀ k, ∃ v an, ∀ t o, (k, t, o) ∈ l → (k, .agg #[v, .bool o, .map an]) ∈ lv ∧ ATyIs w M t v := by
    intro k
    by_cases hk : ∃ t o, (k, t, o) ∈ l
    · obtain ⟨t, o, hk⟩ := hk
      obtain ⟨v, an, h1, h2⟩ := h k t o hk
      refine ⟨v, an, fun t' o' hk' => ?_⟩
      have := key_unique hn hk hk'
      simp only [Prod.mk.injEq] at this
      rw [← this.1, ← this.2]; exact ⟨h1, h2⟩
    · exact ⟨.nilIface, none, fun t o hk' => (hk ⟨t, o, hk'⟩).elim⟩
  exact .record (f := fun k => (h' k).choose) (an := fun k => (h' k).choose_spec.choose) hm hM hn hl (fun k t o hk => ((h' k).choose_spec.choose_spec t o hk).1) (fun k t o hk => ((h' k).choose_spec.choose_spec t o hk).2)

theorem Keep.drewN (w : World) (n : Nat) (M : Nat → Prop) : Keep M w (w.drewN n) := ⟨rfl, rfl, rfl, Nat.le_refl _, fun _ _ _ => rfl⟩

theorem astString_c (w : World) : Calls Tryz.prog 77 #[] w fun e w' => e = .returned (.agg #[]) ∧ Keep NoB w w' := by
  go_enter Tryz.func77, Tryz.ntmps77
  go_wp2
  exact bodyPost_ret (v := .agg #[]) (by simp [results, Tryz.results77, go_sem]) rfl ⟨rfl, Keep.alloc _ _ _⟩
theorem astLong_c (w : World) : Calls Tryz.prog 78 #[] w fun e w' => e = .returned (.agg #[]) ∧ Keep NoB w w' := by
  go_enter Tryz.func78, Tryz.ntmps78
  go_wp2
  exact bodyPost_ret (v := .agg #[]) (by simp [results, Tryz.results78, go_sem]) rfl ⟨rfl, Keep.alloc _ _ _⟩
theorem astSet_c (w : World) (T : TypeId) (x : Value) : Calls Tryz.prog 79 #[.iface T x] w fun e w' => e = .returned (.agg #[.iface T x]) ∧ Keep NoB w w' := by
  go_enter Tryz.func79, Tryz.ntmps79
  go_wp2
  exact bodyPost_ret (v := .agg #[.iface T x]) (by simp [results, Tryz.results79, go_sem]) rfl ⟨rfl, Keep.alloc _ _ _⟩
theorem astEntityType_c (w : World) (s : Str) : Calls Tryz.prog 76 #[.string s] w fun e w' => e = .returned (.string s) ∧ w' = w := by
  go_enter Tryz.func76, Tryz.ntmps76
  go_wp2
  go_ret
  exact ⟨rfl, rfl⟩
theorem astType_c (w : World) (s : Str) : Calls Tryz.prog 80 #[.string s] w fun e w' => e = .returned (.string s) ∧ w' = w := by
  go_enter Tryz.func80, Tryz.ntmps80
  go_wp2
  go_ret
  exact ⟨rfl, rfl⟩

/-- The answer: a type, and true. -/
def ATyOut (w : World) (t : ATy) (e : Ending) (w' : World) : Prop := ∃ T x, e = .returned (.tuple #[.iface T x, .bool true]) ∧ ATyIs w' (· < w.heap.size) t (.iface T x) ∧ Keep NoB w w'
/-- The answer: a map of attributes, and true. -/
def ARecOut (w : World) (l : List (Str × ATy × Bool)) (e : Ending) (w' : World) : Prop := ∃ b, e = .returned (.tuple #[.map (some b), .bool true]) ∧ ATyIs w' (· < w.heap.size) (.record l) (.iface 188 (.map (some b))) ∧ Keep NoB w w'

theorem schemaType_simple (w0 : World) (M : Nat → Prop) (t : ATy) (v : Value) (h : ITyIs w0 M t v) (w : World) (k0 : Keep NoB w0 w)
    (hset : ∀ t' s b off c a k' s' e' a', t = .set t' → v = tyV 5 s (some ⟨b, off, none⟩, 1, c) a → CellsAt w0 b off [.int .i64 k', .string s', slV e', slV a'] → ∀ w1, Keep NoB w0 w1 → Calls Tryz.prog 55 #[tyV k' s' e' a'] w1 (ATyOut w1 t'))
    (hrec : ∀ l s e a, t = .record l → v = tyV 6 s e a → ∀ w1, Keep NoB w0 w1 → Calls Tryz.prog 74 #[slV a] w1 (ARecOut w1 l)) :
    Calls Tryz.prog 55 #[v] w (ATyOut w t) := by
  have HK := Lib.hid k0
  clear k0
  cases h with
  | str s e a =>
    clear hset hrec
    go_enter Tryz.func55, Tryz.ntmps55
    go_wp2_with fail
    refine (astString_c _).mono ?_
    rintro e w2 ⟨rfl, k2⟩
    have K := Lib.hid ((Keep.alloc _ _ NoB).then k2)
    clear k2
    go_wp2_with fail
    go_ret2
    exact ⟨_, _, rfl, .str, K.out⟩
  | long s e a =>
    clear hset hrec
    go_enter Tryz.func55, Tryz.ntmps55
    go_wp2_with fail
    refine (astLong_c _).mono ?_
    rintro e w2 ⟨rfl, k2⟩
    have K := Lib.hid ((Keep.alloc _ _ NoB).then k2)
    clear k2
    go_wp2_with fail
    go_ret2
    exact ⟨_, _, rfl, .long, K.out⟩
  | bool s e a =>
    clear hset hrec
    go_enter Tryz.func55, Tryz.ntmps55
    go_wp2_with fail
    go_ret2
    exact ⟨_, _, rfl, .bool, Keep.alloc _ _ _⟩
  | ext s e a hs =>
    clear hset hrec
    have hsz : s.size ≤ 1000000 := by rcases hs with rfl | rfl | rfl | rfl <;> decide
    have HZ := Lib.hid hsz
    clear hsz
    rcases hs with rfl | rfl | rfl | rfl
    all_goals
      go_enter Tryz.func55, Tryz.ntmps55
      go_upto_region 9 with fail
      go_quiet (fail)
      go_wp2_with fail
      go_ret2
      exact ⟨_, _, rfl, .ext _ HZ.out, (Keep.alloc _ _ NoB).then (Keep.drewN _ _ _)⟩
  | set s b off c a k' s' e' a' hM hc ht =>
    rename_i t'
    have HS := Lib.hid (hset t' s b off c a k' s' e' a' rfl rfl hc)
    have hc' := hc.keep HK.out (NoB.not _)
    have k1 := Keep.alloc w (.cells #[.int .i64 5, .string s, .slice (some ⟨b, off, none⟩) 1 c, .slice a.1 a.2.1 a.2.2] 28) NoB
    have hc1 := hc'.keep k1 (NoB.not _)
    have f0 := hc1 0 _ rfl
    rw [Nat.add_zero] at f0
    have f1 := hc1 1 _ rfl
    have f2 := hc1 2 _ rfl
    have f3 := hc1 3 _ rfl
    have K1 := Lib.hid k1
    clear hset hrec ht hc hc' hc1 k1 hM
    go_enter Tryz.func55, Tryz.ntmps55
    go_wp2_with fail
    refine (HS.out _ (HK.out.then K1.out)).mono ?_
    rintro e w2 ⟨T, x, rfl, hty, k2⟩
    clear f0 f1 f2 f3
    have HQ := Lib.hid (And.intro hty k2)
    clear hty k2
    go_wp2_with fail
    refine (astSet_c _ _ _).mono ?_
    rintro e w3 ⟨rfl, k3⟩
    have HR := Lib.hid k3
    clear k3
    go_wp2_with fail
    go_ret2
    refine ⟨_, _, rfl, .set (HQ.out.1.keep HR.out (fun _ _ h => h.elim) (fun i hi h => ?_)), (K1.out.then HQ.out.2).then HR.out⟩
    have := K1.out.size
    show i < _
    omega
  | record s e ao c kf sf ef af hn hL hc ht =>
    rename_i l
    have HS := Lib.hid (hrec l s e _ rfl rfl)
    have K1 := Lib.hid (Keep.alloc w (.cells #[.int .i64 6, .string s, .slice e.1 e.2.1 e.2.2, .slice ao l.length c] 28) NoB)
    clear hset hrec ht hc hn
    go_enter Tryz.func55, Tryz.ntmps55
    go_wp2_with fail
    refine (HS.out _ (HK.out.then K1.out)).mono ?_
    rintro e w2 ⟨bb, rfl, hty, k2⟩
    have HQ := Lib.hid (And.intro hty k2)
    clear hty k2
    go_wp2_with fail
    go_ret2
    refine ⟨_, _, rfl, HQ.out.1.keep (Keep.refl NoB _) (fun _ _ h => h.elim) (fun i hi h => ?_), K1.out.then HQ.out.2⟩
    have := K1.out.size
    show i < _
    omega
  | ent s e a hs =>
    clear hset hrec
    go_enter Tryz.func55, Tryz.ntmps55
    go_wp2_with fail
    refine (astEntityType_c _ _).mono ?_
    rintro e w2 ⟨rfl, rfl⟩
    go_wp2_with fail
    go_ret2
    exact ⟨_, _, rfl, .ent _ hs, Keep.alloc _ _ _⟩
  | ref s e a hs =>
    clear hset hrec
    go_enter Tryz.func55, Tryz.ntmps55
    go_wp2_with fail
    refine (astType_c _ _).mono ?_
    rintro e w2 ⟨rfl, rfl⟩
    go_wp2_with fail
    go_ret2
    exact ⟨_, _, rfl, .ref _ hs, Keep.alloc _ _ _⟩

/-- The loop over attributes: the first j are in the map. -/
structure ARow (w wr : World) (l : List (Str × ATy × Bool)) (j : Nat) (lres : List (Str × Value)) : Prop where
  keep : Keep NoB w wr
  map : KMap Value.string wr w.heap.size lres
  keys : lres.map (·.1) = (l.take j).map (·.1)
  done : ∀ k t o, (k, t, o) ∈ l.take j → ∃ v, (k, .agg #[v, .bool o, .map none]) ∈ lres ∧ ATyIs wr (· < w.heap.size + 1) t v

theorem schemaRecord_c (w0 : World) (M : Nat → Prop) (l : List (Str × ATy × Bool)) (ao : Option Addr) (c : Nat) (kf : Nat → Int) (sf : Nat → Str) (ef af : Nat → Sl) (hn : (l.map (·.1)).Nodup) (hL : l.length ≤ 1000000)
    (hc : l = [] ∨ ∃ b off, ao = some ⟨b, off, none⟩ ∧ ¬ M b ∧ ∀ i k t q, l[i]? = some (k, t, q) → CellsAt w0 b (off + i * 6) [.string k, .bool q, .int .i64 (kf i), .string (sf i), slV (ef i), slV (af i)])
    (ih : ∀ i k t q, l[i]? = some (k, t, q) → ∀ w', Keep NoB w0 w' → Calls Tryz.prog 55 #[tyV (kf i) (sf i) (ef i) (af i)] w' (ATyOut w' t)) (w : World) (k0 : Keep NoB w0 w) :
    Calls Tryz.prog 74 #[.slice ao l.length c] w (ARecOut w l) := by
  obtain ⟨n, hne⟩ : ∃ n, n = l.length := ⟨_, rfl⟩
  rw [← hne] at hL ⊢
  have hmm := @run_makeMap Tryz.prog
  have HA := Lib.hid (And.intro hne (And.intro hn (And.intro hc (And.intro ih k0))))
  clear hne hn hc ih k0
  go_enter Tryz.func74, Tryz.ntmps74
  go_wp2_with fail
  clear hmm
  go_loopg [12] n (fun k i wr => ∃ j : Nat, j + k = n ∧ i = .int .i64 j ∧ ∃ lres, ARow w wr l j lres)
  case atStart => exact ⟨0, by omega, rfl, [], Keep.alloc _ _ _, KMap.made w, by simp, fun _ _ _ h => by simp at h⟩
  case round =>
    obtain ⟨j, hj, rfl, lres, hrow⟩ := hrel
    have HR := Lib.hid hrow
    clear hrow
    by_cases hlt : j < n
    · obtain ⟨hne, hn, hc, ih, k0⟩ := HA.out
      rcases hc with rfl | ⟨b, off, rfl, hM, hc⟩
      · simp at hne; omega
      · obtain ⟨⟨ka, ta, oa⟩, hl⟩ : ∃ x, l[j]? = some x := ⟨_, List.getElem?_eq_getElem (by omega)⟩
        have hcw := (hc j _ _ _ hl).keep (k0.then HR.out.keep) (NoB.not _)
        have f0 := hcw 0 _ rfl
        rw [Nat.add_zero] at f0
        have f1 := hcw 1 _ rfl
        have f2 := hcw 2 _ rfl
        have f3 := hcw 3 _ rfl
        have f4 := hcw 4 _ rfl
        have f5 := hcw 5 _ rfl
        have k1 := Keep.alloc wr (.cells #[.string ka, .bool oa, .int .i64 (kf j), .string (sf j), .slice (ef j).1 (ef j).2.1 (ef j).2.2, .slice (af j).1 (af j).2.1 (af j).2.2] 32) NoB
        have hb1 := (MapKept.heap_alloc wr (.cells #[.string ka, .bool oa, .int .i64 (kf j), .string (sf j), .slice (ef j).1 (ef j).2.1 (ef j).2.2, .slice (af j).1 (af j).2.1 (af j).2.2] 32)).1
        have HC := Lib.hid (ih j _ _ _ hl _ ((k0.then HR.out.keep).then k1))
        have HP := Lib.hid (And.intro hl (And.intro k1 (And.intro hb1 hM)))
        clear hne hn hc ih k0 hM hl hcw k1 hb1
        go_wp2_with fail
        refine HC.out.mono ?_
        rintro e w3 ⟨T, x, rfl, hty, k3⟩
        clear f0 f1 f2 f3 f4 f5
        obtain ⟨hl, k1, hb1, hM⟩ := HP.out
        have hb3 := k3.heap hb1 (NoB.not _)
        have g0 : w3.cell? ⟨wr.heap.size, 0, none⟩ = some (.string ka) := by rw [cell_cells hb3]; rfl
        have g1 : w3.cell? ⟨wr.heap.size, 1, none⟩ = some (.bool oa) := by rw [cell_cells hb3]; rfl
        have k13 := k1.then k3
        have hm3 := HR.out.map.keep k13 (NoB.not _)
        obtain ⟨ob, hupd, hm4⟩ := hm3.update (strKey Tryz.underlying103) Tryz.underlying188 ka (.agg #[.iface T x, .bool oa, .map none])
        have HQ := Lib.hid (And.intro hty (And.intro k13 (And.intro hm3 hm4)))
        clear hl k1 hb1 hM k3 hb3 k13 hm3 hm4 hty
        go_wp2_with fail
        go_roundg (gk - 1)
        case measure => omega
        case rel =>
          obtain ⟨hne, hn, hc, ih, k0⟩ := HA.out
          obtain ⟨hl, k1, hb1, hM⟩ := HP.out
          obtain ⟨hty, k13, hm3, hm4⟩ := HQ.out
          have hjl : j < l.length := by omega
          have hlt3 : w.heap.size < w3.heap.size := hm3.lt
          have hltr : w.heap.size < wr.heap.size := HR.out.map.lt
          have htk : l.take (j + 1) = l.take j ++ [(ka, ta, oa)] := by
            rw [List.take_succ_eq_append_getElem hjl]
            have := List.getElem?_eq_getElem hjl
            rw [hl] at this
            rw [← Option.some.inj this]
          have hnt : ((l.take (j + 1)).map (·.1)).Nodup := (List.Sublist.map _ (List.take_sublist _ _)).nodup hn
          have hfresh : ∀ q ∈ lres, q.1 ≠ ka := by
            intro q hq e
            rw [htk, List.map_append, ← HR.out.keys] at hnt
            exact (List.nodup_append.1 hnt).2.2 q.1 (List.mem_map.2 ⟨q, hq, rfl⟩) ka (by simp) e
          have hput : kput lres ka (.agg #[.iface T x, .bool oa, .map none]) = lres ++ [(ka, .agg #[.iface T x, .bool oa, .map none])] := kput_fresh _ hfresh
          have k4 : Keep (· = w.heap.size) w3 (ChangeMaps.setBlock w3 w.heap.size ob) := Keep.setBlock _ _ _ (fun _ => rfl)
          rw [hput] at hm4
          refine ⟨j + 1, by omega, by go_num, _, ⟨(HR.out.keep.then k13).trans k4 (fun _ _ h => h) (fun i hi h => by omega), hm4, by rw [List.map_append, HR.out.keys, htk, List.map_append]; rfl, fun k t o hm' => ?_⟩⟩
          rw [htk] at hm'
          rcases List.mem_append.1 hm' with h | h
          · obtain ⟨v, h1, h2⟩ := HR.out.done k t o h
            exact ⟨v, List.mem_append.2 (.inl h1), (h2.keep k13 (fun _ _ h => h.elim) (fun _ _ h => h)).keep k4 (fun i hi h => by show i < _; omega) (fun _ _ h => h)⟩
          · simp only [List.mem_singleton, Prod.mk.injEq] at h
            obtain ⟨rfl, rfl, rfl⟩ := h
            refine ⟨_, List.mem_append.2 (.inr (by simp)), ATyIs.keep k4 (fun i hi h => ?_) (fun i hi h => ?_) hty⟩
            · show i < _
              simp; omega
            · have h' : i < w.heap.size + 1 := h
              show i < _
              simp; omega
    · have hjn : j = n := by omega
      subst hjn
      go_wp2_with fail
      go_ret2
      obtain ⟨hne, hn, hc, ih, k0⟩ := HA.out
      obtain ⟨kk, hm, hkeys, hdone⟩ := HR.out
      rw [hne, List.take_length] at hkeys hdone
      refine ⟨_, rfl, ?_, kk⟩
      refine ATyIs.mkRecord hm (fun h => by omega) hn (by have := congrArg List.length hkeys; simpa using this) fun k t o hm' => ?_
      obtain ⟨v, h1, h2⟩ := hdone k t o hm'
      exact ⟨v, none, h1, h2.keep (Keep.refl NoB _) (fun _ _ h => h.elim) (fun i hi h => by show i < _; omega)⟩

theorem schemaType_c {w0 : World} {M : Nat → Prop} {t : ATy} {v : Value} (h : ITyIs w0 M t v) : ∀ w, Keep NoB w0 w → Calls Tryz.prog 55 #[v] w (ATyOut w t) := by
  induction h with
  | str s e a => exact fun w k => schemaType_simple w0 M _ _ (.str s e a) w k (fun _ _ _ _ _ _ _ _ _ _ h => by cases h) (fun _ _ _ _ h => by cases h)
  | long s e a => exact fun w k => schemaType_simple w0 M _ _ (.long s e a) w k (fun _ _ _ _ _ _ _ _ _ _ h => by cases h) (fun _ _ _ _ h => by cases h)
  | bool s e a => exact fun w k => schemaType_simple w0 M _ _ (.bool s e a) w k (fun _ _ _ _ _ _ _ _ _ _ h => by cases h) (fun _ _ _ _ h => by cases h)
  | ext s e a hs => exact fun w k => schemaType_simple w0 M _ _ (.ext s e a hs) w k (fun _ _ _ _ _ _ _ _ _ _ h => by cases h) (fun _ _ _ _ h => by cases h)
  | ent s e a hs => exact fun w k => schemaType_simple w0 M _ _ (.ent s e a hs) w k (fun _ _ _ _ _ _ _ _ _ _ h => by cases h) (fun _ _ _ _ h => by cases h)
  | ref s e a hs => exact fun w k => schemaType_simple w0 M _ _ (.ref s e a hs) w k (fun _ _ _ _ _ _ _ _ _ _ h => by cases h) (fun _ _ _ _ h => by cases h)
  | set s b off c a k' s' e' a' hM hc ht ih =>
    refine fun w k => schemaType_simple w0 M _ _ (.set s b off c a k' s' e' a' hM hc ht) w k (fun t2 s2 b2 off2 c2 a2 k2 s3 e3 a3 h h2 hc2 w1 k1 => ?_) (fun _ _ _ _ h => by cases h)
    cases h
    simp only [Value.agg.injEq, Array.mk.injEq, List.cons.injEq, Value.slice.injEq, and_true, true_and, Option.some.injEq, Addr.mk.injEq] at h2
    obtain ⟨_, ⟨⟨rfl, rfl⟩, _⟩, _⟩ := h2
    have q0 := (hc 0 _ rfl).symm.trans (hc2 0 _ rfl)
    have q1 := (hc 1 _ rfl).symm.trans (hc2 1 _ rfl)
    have q2 := (hc 2 _ rfl).symm.trans (hc2 2 _ rfl)
    have q3 := (hc 3 _ rfl).symm.trans (hc2 3 _ rfl)
    simp only [Option.some.injEq, Value.int.injEq, Value.string.injEq, Value.slice.injEq, true_and] at q0 q1 q2 q3
    have h1 := ih w1 k1
    show Calls _ _ #[.agg #[.int .i64 k2, .string s3, .slice e3.1 e3.2.1 e3.2.2, .slice a3.1 a3.2.1 a3.2.2]] _ _
    rw [← q0, ← q1, ← q2.1, ← q2.2.1, ← q2.2.2, ← q3.1, ← q3.2.1, ← q3.2.2]
    exact h1
  | record s e ao c kf sf ef af hn hL hc ht ih =>
    refine fun w k => schemaType_simple w0 M _ _ (.record s e ao c kf sf ef af hn hL hc ht) w k (fun _ _ _ _ _ _ _ _ _ _ h => by cases h) (fun l' s2 e2 a2 h h2 w1 k1 => ?_)
    cases h
    simp only [Value.agg.injEq, Array.mk.injEq, List.cons.injEq, Value.slice.injEq, and_true, true_and] at h2
    obtain ⟨_, _, h3, h4, h5⟩ := h2
    show Calls _ _ #[.slice a2.1 a2.2.1 a2.2.2] _ _
    rw [← h3, ← h4, ← h5]
    exact schemaRecord_c w0 M _ ao c kf sf ef af hn hL hc (fun i k t q hi => ih i k t q hi) w1 k1
end Go.Proofs.YthhjehajdcgkhaaGreatDoor
