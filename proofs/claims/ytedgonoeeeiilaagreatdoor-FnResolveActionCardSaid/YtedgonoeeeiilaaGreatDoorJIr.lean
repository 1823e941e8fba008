/- In, Ip: joined. -/
import Derived.Test.YtedgonoeeeiilaaGreatDoorRa
import Derived.BigQuiet
/- The walks of the functions that turn given types into types of the syntax tree. -/
namespace Go.Proofs.YtedgonoeeeiilaaGreatDoor
open Go.RowKit

abbrev Sl := Option Addr × Nat × Nat
abbrev slV (e : Sl) : Value := .slice e.1 e.2.1 e.2.2
abbrev tyV (k : Int) (s : Str) (e a : Sl) : Value := .agg #[.int .i64 k, .string s, .slice e.1 e.2.1 e.2.2, .slice a.1 a.2.1 a.2.2]
/-- A type as it is given. -/
inductive ITyIs (w : World) (M : Nat → Prop) : ATy → Value → Prop
  | str (s : Str) (e a : Sl) : ITyIs w M .str (tyV 1 s e a)
  | long (s : Str) (e a : Sl) : ITyIs w M .long (tyV 2 s e a)
  | bool (s : Str) (e a : Sl) : ITyIs w M .bool (tyV 3 s e a)
  | ext (s : Str) (e a : Sl) : s = ⟨#[100, 101, 99, 105, 109, 97, 108]⟩ ∨ s = ⟨#[100, 97, 116, 101, 116, 105, 109, 101]⟩ ∨ s = ⟨#[100, 117, 114, 97, 116, 105, 111, 110]⟩ ∨ s = ⟨#[105, 112, 97, 100, 100, 114]⟩ → ITyIs w M (.ext s) (tyV 4 s e a)
  | set {t : ATy} (s : Str) (b off c : Nat) (a : Sl) (k' : Int) (s' : Str) (e' a' : Sl) : ¬ M b → CellsAt w b off [.int .i64 k', .string s', slV e', slV a'] → ITyIs w M t (tyV k' s' e' a') → ITyIs w M (.set t) (tyV 5 s (some ⟨b, off, none⟩, 1, c) a)
  | record {l : List (Str × ATy × Bool)} (s : Str) (e : Sl) (ao : Option Addr) (c : Nat) (kf : Nat → Int) (sf : Nat → Str) (ef af : Nat → Sl) : (l.map (·.1)).Nodup → l.length ≤ 1000000 →
      (l = [] ∨ ∃ b off, ao = some ⟨b, off, none⟩ ∧ ¬ M b ∧ ∀ i k t q, l[i]? = some (k, t, q) → CellsAt w b (off + i * 6) [.string k, .bool q, .int .i64 (kf i), .string (sf i), slV (ef i), slV (af i)]) →
      (∀ i k t q, l[i]? = some (k, t, q) → ITyIs w M t (tyV (kf i) (sf i) (ef i) (af i))) → ITyIs w M (.record l) (tyV 6 s e (ao, l.length, c))
  | ent (s : Str) (e a : Sl) : s.size ≤ 1000000 → ITyIs w M (.ent s) (tyV 7 s e a)
  | ref (s : Str) (e a : Sl) : s.size ≤ 1000000 → ITyIs w M (.ref s) (tyV 8 s e a)

theorem ATyIs.mkRecord {w : World} {M : Nat → Prop} {l : List (Str × ATy × Bool)} {lv : List (Str × Value)} {b : Nat} (hm : KMap Value.string w b lv) (hM : ¬ M b) (hn : (l.map (·.1)).Nodup) (hl : lv.length = l.length)
    (h : ∀ k t o, (k, t, o) ∈ l → ∃ v an, (k, .agg #[v, .bool o, .map an]) ∈ lv ∧ ATyIs w M t v) : ATyIs w M (.record l) (.iface 181 (.map (some b))) := by
  have h' : ∀ k, ∃ v an, ∀ t o, (k, t, o) ∈ l → (k, .agg #[v, .bool o, .map an]) ∈ lv ∧ ATyIs w M t v := by
    intro k
    by_cases hk : ∃ t o, (k, t, o) ∈ l
    · obtain ⟨t, o, hk⟩ := hk
      obtain ⟨v, an, h1, h2⟩ := h k t o hk
      refine ⟨v, an, fun t' o' hk' => ?_⟩
      have := key_unique hn hk hk'
      simp only [Prod.mk.injEq] at this
      rw [← this.1, ← this.2]; exact ⟨h1, h2⟩
    · exact ⟨.nilIface, none, fun t o hk' => (hk ⟨t, o, hk'⟩).elim⟩
  exact .record (f := fun k => (h' k).choose) (an := fun k => (h' k).choose_spec.choose) hm hM hn hl (fun k t o hk => ((h' k).choose_spec.choose_spec t o hk).1) (fun k t o hk => ((h' k).choose_spec.choose_spec t o hk).2)

theorem Keep.drewN (w : World) (n : Nat) (M : Nat → Prop) : Keep M w (w.drewN n) := ⟨rfl, rfl, rfl, Nat.le_refl _, fun _ _ _ => rfl⟩

theorem astString_c (w : World) : Calls Tryz.prog 72 #[] w fun e w' => e = .returned (.agg #[]) ∧ Keep NoB w w' := by
  go_enter Tryz.func72, Tryz.ntmps72
  go_wp2
  exact bodyPost_ret (v := .agg #[]) (by simp [results, Tryz.results72, go_sem]) rfl ⟨rfl, Keep.alloc _ _ _⟩
theorem astLong_c (w : World) : Calls Tryz.prog 73 #[] w fun e w' => e = .returned (.agg #[]) ∧ Keep NoB w w' := by
  go_enter Tryz.func73, Tryz.ntmps73
  go_wp2
  exact bodyPost_ret (v := .agg #[]) (by simp [results, Tryz.results73, go_sem]) rfl ⟨rfl, Keep.alloc _ _ _⟩
theorem astSet_c (w : World) (T : TypeId) (x : Value) : Calls Tryz.prog 74 #[.iface T x] w fun e w' => e = .returned (.agg #[.iface T x]) ∧ Keep NoB w w' := by
  go_enter Tryz.func74, Tryz.ntmps74
  go_wp2
  exact bodyPost_ret (v := .agg #[.iface T x]) (by simp [results, Tryz.results74, go_sem]) rfl ⟨rfl, Keep.alloc _ _ _⟩
theorem astEntityType_c (w : World) (s : Str) : Calls Tryz.prog 71 #[.string s] w fun e w' => e = .returned (.string s) ∧ w' = w := by
  go_enter Tryz.func71, Tryz.ntmps71
  go_wp2
  go_ret
  exact ⟨rfl, rfl⟩
theorem astType_c (w : World) (s : Str) : Calls Tryz.prog 75 #[.string s] w fun e w' => e = .returned (.string s) ∧ w' = w := by
  go_enter Tryz.func75, Tryz.ntmps75
  go_wp2
  go_ret
  exact ⟨rfl, rfl⟩

/-- The answer: a type, and true. -/
def ATyOut (w : World) (t : ATy) (e : Ending) (w' : World) : Prop := ∃ T x, e = .returned (.tuple #[.iface T x, .bool true]) ∧ ATyIs w' (· < w.heap.size) t (.iface T x) ∧ Keep NoB w w'
/-- The answer: a map of attributes, and true. -/
def ARecOut (w : World) (l : List (Str × ATy × Bool)) (e : Ending) (w' : World) : Prop := ∃ b, e = .returned (.tuple #[.map (some b), .bool true]) ∧ ATyIs w' (· < w.heap.size) (.record l) (.iface 181 (.map (some b))) ∧ Keep NoB w w'

theorem schemaType_simple (w0 : World) (M : Nat → Prop) (t : ATy) (v : Value) (h : ITyIs w0 M t v) (w : World) (k0 : Keep NoB w0 w)
    (hset : ∀ t' s b off c a k' s' e' a', t = .set t' → v = tyV 5 s (some ⟨b, off, none⟩, 1, c) a → CellsAt w0 b off [.int .i64 k', .string s', slV e', slV a'] → ∀ w1, Keep NoB w0 w1 → Calls Tryz.prog 50 #[tyV k' s' e' a'] w1 (ATyOut w1 t'))
    (hrec : ∀ l s e a, t = .record l → v = tyV 6 s e a → ∀ w1, Keep NoB w0 w1 → Calls Tryz.prog 69 #[slV a] w1 (ARecOut w1 l)) :
    Calls Tryz.prog 50 #[v] w (ATyOut w t) := by
  have HK := Lib.hid k0
  clear k0
  cases h with
  | str s e a =>
    clear hset hrec
    go_enter Tryz.func50, Tryz.ntmps50
    go_wp2_with fail
    refine (astString_c _).mono ?_
    rintro e w2 ⟨rfl, k2⟩
    have K := Lib.hid ((Keep.alloc _ _ NoB).then k2)
    clear k2
    go_wp2_with fail
    go_ret2
    exact ⟨_, _, rfl, .str, K.out⟩
  | long s e a =>
    clear hset hrec
    go_enter Tryz.func50, Tryz.ntmps50
    go_wp2_with fail
    refine (astLong_c _).mono ?_
    rintro e w2 ⟨rfl, k2⟩
    have K := Lib.hid ((Keep.alloc _ _ NoB).then k2)
    clear k2
    go_wp2_with fail
    go_ret2
    exact ⟨_, _, rfl, .long, K.out⟩
  | bool s e a =>
    clear hset hrec
    go_enter Tryz.func50, Tryz.ntmps50
    go_wp2_with fail
    go_ret2
    exact ⟨_, _, rfl, .bool, Keep.alloc _ _ _⟩
  | ext s e a hs =>
    clear hset hrec
    have hsz : s.size ≤ 1000000 := by rcases hs with rfl | rfl | rfl | rfl <;> decide
    have HZ := Lib.hid hsz
    clear hsz
    rcases hs with rfl | rfl | rfl | rfl
    all_goals
      go_enter Tryz.func50, Tryz.ntmps50
      go_upto_region 9 with fail
      go_quiet (fail)
      go_wp2_with fail
      go_ret2
      exact ⟨_, _, rfl, .ext _ HZ.out, (Keep.alloc _ _ NoB).then (Keep.drewN _ _ _)⟩
  | set s b off c a k' s' e' a' hM hc ht =>
    rename_i t'
    have HS := Lib.hid (hset t' s b off c a k' s' e' a' rfl rfl hc)
    have hc' := hc.keep HK.out (NoB.not _)
    have k1 := Keep.alloc w (.cells #[.int .i64 5, .string s, .slice (some ⟨b, off, none⟩) 1 c, .slice a.1 a.2.1 a.2.2] 30) NoB
    have hc1 := hc'.keep k1 (NoB.not _)
    have f0 := hc1 0 _ rfl
    rw [Nat.add_zero] at f0
    have f1 := hc1 1 _ rfl
    have f2 := hc1 2 _ rfl
    have f3 := hc1 3 _ rfl
    have K1 := Lib.hid k1
    clear hset hrec ht hc hc' hc1 k1 hM
    go_enter Tryz.func50, Tryz.ntmps50
    go_wp2_with fail
    refine (HS.out _ (HK.out.then K1.out)).mono ?_
    rintro e w2 ⟨T, x, rfl, hty, k2⟩
    clear f0 f1 f2 f3
    have HQ := Lib.hid (And.intro hty k2)
    clear hty k2
    go_wp2_with fail
    refine (astSet_c _ _ _).mono ?_
    rintro e w3 ⟨rfl, k3⟩
    have HR := Lib.hid k3
    clear k3
    go_wp2_with fail
    go_ret2
    refine ⟨_, _, rfl, .set (HQ.out.1.keep HR.out (fun _ _ h => h.elim) (fun i hi h => ?_)), (K1.out.then HQ.out.2).then HR.out⟩
    have := K1.out.size
    show i < _
    omega
  | record s e ao c kf sf ef af hn hL hc ht =>
    rename_i l
    have HS := Lib.hid (hrec l s e _ rfl rfl)
    have K1 := Lib.hid (Keep.alloc w (.cells #[.int .i64 6, .string s, .slice e.1 e.2.1 e.2.2, .slice ao l.length c] 30) NoB)
    clear hset hrec ht hc hn
    go_enter Tryz.func50, Tryz.ntmps50
    go_wp2_with fail
    refine (HS.out _ (HK.out.then K1.out)).mono ?_
    rintro e w2 ⟨bb, rfl, hty, k2⟩
    have HQ := Lib.hid (And.intro hty k2)
    clear hty k2
    go_wp2_with fail
    go_ret2
    refine ⟨_, _, rfl, HQ.out.1.keep (Keep.refl NoB _) (fun _ _ h => h.elim) (fun i hi h => ?_), K1.out.then HQ.out.2⟩
    have := K1.out.size
    show i < _
    omega
  | ent s e a hs =>
    clear hset hrec
    go_enter Tryz.func50, Tryz.ntmps50
    go_wp2_with fail
    refine (astEntityType_c _ _).mono ?_
    rintro e w2 ⟨rfl, rfl⟩
    go_wp2_with fail
    go_ret2
    exact ⟨_, _, rfl, .ent _ hs, Keep.alloc _ _ _⟩
  | ref s e a hs =>
    clear hset hrec
    go_enter Tryz.func50, Tryz.ntmps50
    go_wp2_with fail
    refine (astType_c _ _).mono ?_
    rintro e w2 ⟨rfl, rfl⟩
    go_wp2_with fail
    go_ret2
    exact ⟨_, _, rfl, .ref _ hs, Keep.alloc _ _ _⟩

/-- The loop over attributes: the first j are in the map. -/
structure ARow (w wr : World) (l : List (Str × ATy × Bool)) (j : Nat) (lres : List (Str × Value)) : Prop where
  keep : Keep NoB w wr
  map : KMap Value.string wr w.heap.size lres
  keys : lres.map (·.1) = (l.take j).map (·.1)
  done : ∀ k t o, (k, t, o) ∈ l.take j → ∃ v, (k, .agg #[v, .bool o, .map none]) ∈ lres ∧ ATyIs wr (· < w.heap.size + 1) t v

theorem schemaRecord_c (w0 : World) (M : Nat → Prop) (l : List (Str × ATy × Bool)) (ao : Option Addr) (c : Nat) (kf : Nat → Int) (sf : Nat → Str) (ef af : Nat → Sl) (hn : (l.map (·.1)).Nodup) (hL : l.length ≤ 1000000)
    (hc : l = [] ∨ ∃ b off, ao = some ⟨b, off, none⟩ ∧ ¬ M b ∧ ∀ i k t q, l[i]? = some (k, t, q) → CellsAt w0 b (off + i * 6) [.string k, .bool q, .int .i64 (kf i), .string (sf i), slV (ef i), slV (af i)])
    (ih : ∀ i k t q, l[i]? = some (k, t, q) → ∀ w', Keep NoB w0 w' → Calls Tryz.prog 50 #[tyV (kf i) (sf i) (ef i) (af i)] w' (ATyOut w' t)) (w : World) (k0 : Keep NoB w0 w) :
    Calls Tryz.prog 69 #[.slice ao l.length c] w (ARecOut w l) := by
  obtain ⟨n, hne⟩ : ∃ n, n = l.length := ⟨_, rfl⟩
  rw [← hne] at hL ⊢
  have hmm := @run_makeMap Tryz.prog
  have HA := Lib.hid (And.intro hne (And.intro hn (And.intro hc (And.intro ih k0))))
  clear hne hn hc ih k0
  go_enter Tryz.func69, Tryz.ntmps69
  go_wp2_with fail
  clear hmm
  go_loopg [12] n (fun k i wr => ∃ j : Nat, j + k = n ∧ i = .int .i64 j ∧ ∃ lres, ARow w wr l j lres)
  case atStart => exact ⟨0, by omega, rfl, [], Keep.alloc _ _ _, KMap.made w, by simp, fun _ _ _ h => by simp at h⟩
  case round =>
    obtain ⟨j, hj, rfl, lres, hrow⟩ := hrel
    have HR := Lib.hid hrow
    clear hrow
    by_cases hlt : j < n
    · obtain ⟨hne, hn, hc, ih, k0⟩ := HA.out
      rcases hc with rfl | ⟨b, off, rfl, hM, hc⟩
      · simp at hne; omega
      · obtain ⟨⟨ka, ta, oa⟩, hl⟩ : ∃ x, l[j]? = some x := ⟨_, List.getElem?_eq_getElem (by omega)⟩
        have hcw := (hc j _ _ _ hl).keep (k0.then HR.out.keep) (NoB.not _)
        have f0 := hcw 0 _ rfl
        rw [Nat.add_zero] at f0
        have f1 := hcw 1 _ rfl
        have f2 := hcw 2 _ rfl
        have f3 := hcw 3 _ rfl
        have f4 := hcw 4 _ rfl
        have f5 := hcw 5 _ rfl
        have k1 := Keep.alloc wr (.cells #[.string ka, .bool oa, .int .i64 (kf j), .string (sf j), .slice (ef j).1 (ef j).2.1 (ef j).2.2, .slice (af j).1 (af j).2.1 (af j).2.2] 155) NoB
        have hb1 := (MapKept.heap_alloc wr (.cells #[.string ka, .bool oa, .int .i64 (kf j), .string (sf j), .slice (ef j).1 (ef j).2.1 (ef j).2.2, .slice (af j).1 (af j).2.1 (af j).2.2] 155)).1
        have HC := Lib.hid (ih j _ _ _ hl _ ((k0.then HR.out.keep).then k1))
        have HP := Lib.hid (And.intro hl (And.intro k1 (And.intro hb1 hM)))
        clear hne hn hc ih k0 hM hl hcw k1 hb1
        go_wp2_with fail
        refine HC.out.mono ?_
        rintro e w3 ⟨T, x, rfl, hty, k3⟩
        clear f0 f1 f2 f3 f4 f5
        obtain ⟨hl, k1, hb1, hM⟩ := HP.out
        have hb3 := k3.heap hb1 (NoB.not _)
        have g0 : w3.cell? ⟨wr.heap.size, 0, none⟩ = some (.string ka) := by rw [cell_cells hb3]; rfl
        have g1 : w3.cell? ⟨wr.heap.size, 1, none⟩ = some (.bool oa) := by rw [cell_cells hb3]; rfl
        have k13 := k1.then k3
        have hm3 := HR.out.map.keep k13 (NoB.not _)
        obtain ⟨ob, hupd, hm4⟩ := hm3.update (strKey Tryz.underlying94) Tryz.underlying181 ka (.agg #[.iface T x, .bool oa, .map none])
        have HQ := Lib.hid (And.intro hty (And.intro k13 (And.intro hm3 hm4)))
        clear hl k1 hb1 hM k3 hb3 k13 hm3 hm4 hty
        go_wp2_with fail
        go_roundg (gk - 1)
        case measure => omega
        case rel =>
          obtain ⟨hne, hn, hc, ih, k0⟩ := HA.out
          obtain ⟨hl, k1, hb1, hM⟩ := HP.out
          obtain ⟨hty, k13, hm3, hm4⟩ := HQ.out
          have hjl : j < l.length := by omega
          have hlt3 : w.heap.size < w3.heap.size := hm3.lt
          have hltr : w.heap.size < wr.heap.size := HR.out.map.lt
          have htk : l.take (j + 1) = l.take j ++ [(ka, ta, oa)] := by
            rw [List.take_succ_eq_append_getElem hjl]
            have := List.getElem?_eq_getElem hjl
            rw [hl] at this
            rw [← Option.some.inj this]
          have hnt : ((l.take (j + 1)).map (·.1)).Nodup := (List.Sublist.map _ (List.take_sublist _ _)).nodup hn
          have hfresh : ∀ q ∈ lres, q.1 ≠ ka := by
            intro q hq e
            rw [htk, List.map_append, ← HR.out.keys] at hnt
            exact (List.nodup_append.1 hnt).2.2 q.1 (List.mem_map.2 ⟨q, hq, rfl⟩) ka (by simp) e
          have hput : kput lres ka (.agg #[.iface T x, .bool oa, .map none]) = lres ++ [(ka, .agg #[.iface T x, .bool oa, .map none])] := kput_fresh _ hfresh
          have k4 : Keep (· = w.heap.size) w3 (ChangeMaps.setBlock w3 w.heap.size ob) := Keep.setBlock _ _ _ (fun _ => rfl)
          rw [hput] at hm4
          refine ⟨j + 1, by omega, by go_num, _, ⟨(HR.out.keep.then k13).trans k4 (fun _ _ h => h) (fun i hi h => by omega), hm4, by rw [List.map_append, HR.out.keys, htk, List.map_append]; rfl, fun k t o hm' => ?_⟩⟩
          rw [htk] at hm'
          rcases List.mem_append.1 hm' with h | h
          · obtain ⟨v, h1, h2⟩ := HR.out.done k t o h
            exact ⟨v, List.mem_append.2 (.inl h1), (h2.keep k13 (fun _ _ h => h.elim) (fun _ _ h => h)).keep k4 (fun i hi h => by show i < _; omega) (fun _ _ h => h)⟩
          · simp only [List.mem_singleton, Prod.mk.injEq] at h
            obtain ⟨rfl, rfl, rfl⟩ := h
            refine ⟨_, List.mem_append.2 (.inr (by simp)), ATyIs.keep k4 (fun i hi h => ?_) (fun i hi h => ?_) hty⟩
            · show i < _
              simp; omega
            · have h' : i < w.heap.size + 1 := h
              show i < _
              simp; omega
    · have hjn : j = n := by omega
      subst hjn
      go_wp2_with fail
      go_ret2
      obtain ⟨hne, hn, hc, ih, k0⟩ := HA.out
      obtain ⟨kk, hm, hkeys, hdone⟩ := HR.out
      rw [hne, List.take_length] at hkeys hdone
      refine ⟨_, rfl, ?_, kk⟩
      refine ATyIs.mkRecord hm (fun h => by omega) hn (by have := congrArg List.length hkeys; simpa using this) fun k t o hm' => ?_
      obtain ⟨v, h1, h2⟩ := hdone k t o hm'
      exact ⟨v, none, h1, h2.keep (Keep.refl NoB _) (fun _ _ h => h.elim) (fun i hi h => by show i < _; omega)⟩

theorem schemaType_c {w0 : World} {M : Nat → Prop} {t : ATy} {v : Value} (h : ITyIs w0 M t v) : ∀ w, Keep NoB w0 w → Calls Tryz.prog 50 #[v] w (ATyOut w t) := by
  induction h with
  | str s e a => exact fun w k => schemaType_simple w0 M _ _ (.str s e a) w k (fun _ _ _ _ _ _ _ _ _ _ h => by cases h) (fun _ _ _ _ h => by cases h)
  | long s e a => exact fun w k => schemaType_simple w0 M _ _ (.long s e a) w k (fun _ _ _ _ _ _ _ _ _ _ h => by cases h) (fun _ _ _ _ h => by cases h)
  | bool s e a => exact fun w k => schemaType_simple w0 M _ _ (.bool s e a) w k (fun _ _ _ _ _ _ _ _ _ _ h => by cases h) (fun _ _ _ _ h => by cases h)
  | ext s e a hs => exact fun w k => schemaType_simple w0 M _ _ (.ext s e a hs) w k (fun _ _ _ _ _ _ _ _ _ _ h => by cases h) (fun _ _ _ _ h => by cases h)
  | ent s e a hs => exact fun w k => schemaType_simple w0 M _ _ (.ent s e a hs) w k (fun _ _ _ _ _ _ _ _ _ _ h => by cases h) (fun _ _ _ _ h => by cases h)
  | ref s e a hs => exact fun w k => schemaType_simple w0 M _ _ (.ref s e a hs) w k (fun _ _ _ _ _ _ _ _ _ _ h => by cases h) (fun _ _ _ _ h => by cases h)
  | set s b off c a k' s' e' a' hM hc ht ih =>
    refine fun w k => schemaType_simple w0 M _ _ (.set s b off c a k' s' e' a' hM hc ht) w k (fun t2 s2 b2 off2 c2 a2 k2 s3 e3 a3 h h2 hc2 w1 k1 => ?_) (fun _ _ _ _ h => by cases h)
    cases h
    simp only [Value.agg.injEq, Array.mk.injEq, List.cons.injEq, Value.slice.injEq, and_true, true_and, Option.some.injEq, Addr.mk.injEq] at h2
    obtain ⟨_, ⟨⟨rfl, rfl⟩, _⟩, _⟩ := h2
    have q0 := (hc 0 _ rfl).symm.trans (hc2 0 _ rfl)
    have q1 := (hc 1 _ rfl).symm.trans (hc2 1 _ rfl)
    have q2 := (hc 2 _ rfl).symm.trans (hc2 2 _ rfl)
    have q3 := (hc 3 _ rfl).symm.trans (hc2 3 _ rfl)
    simp only [Option.some.injEq, Value.int.injEq, Value.string.injEq, Value.slice.injEq, true_and] at q0 q1 q2 q3
    have h1 := ih w1 k1
    show Calls _ _ #[.agg #[.int .i64 k2, .string s3, .slice e3.1 e3.2.1 e3.2.2, .slice a3.1 a3.2.1 a3.2.2]] _ _
    rw [← q0, ← q1, ← q2.1, ← q2.2.1, ← q2.2.2, ← q3.1, ← q3.2.1, ← q3.2.2]
    exact h1
  | record s e ao c kf sf ef af hn hL hc ht ih =>
    refine fun w k => schemaType_simple w0 M _ _ (.record s e ao c kf sf ef af hn hL hc ht) w k (fun _ _ _ _ _ _ _ _ _ _ h => by cases h) (fun l' s2 e2 a2 h h2 w1 k1 => ?_)
    cases h
    simp only [Value.agg.injEq, Array.mk.injEq, List.cons.injEq, Value.slice.injEq, and_true, true_and] at h2
    obtain ⟨_, _, h3, h4, h5⟩ := h2
    show Calls _ _ #[.slice a2.1 a2.2.1 a2.2.2] _ _
    rw [← h3, ← h4, ← h5]
    exact schemaRecord_c w0 M _ ao c kf sf ef af hn hL hc (fun i k t q hi => ih i k t q hi) w1 k1
end Go.Proofs.YtedgonoeeeiilaaGreatDoor
/- The walks of the functions that turn given declarations of entity types into those of the syntax tree. -/
namespace Go.Proofs.YtedgonoeeeiilaaGreatDoor
open Go.RowKit

theorem infoEntRef : (Tryz.prog.info? 230).map (fun i => (i.zero, i.size, i.bytes)) = some (some (.string ⟨#[]⟩), 1, 16) := by kernel_rfl

set_option maxRecDepth 100000 in
set_option maxHeartbeats 4000000 in
theorem schemaRefs_c (w : World) (M : Nat → Prop) (l : List Str) (ov : Option Addr) (c : Nat) (hl : l.length ≤ 1000000) (h : StrsAt w M l (.slice ov l.length c)) :
    Calls Tryz.prog 68 #[.slice ov l.length c] w fun e w' => ∃ o n c', e = .returned (.slice o n c') ∧ StrsAt w' (· < w.heap.size) l (.slice o n c') ∧ Keep NoB w w' := by
  obtain ⟨iU, hiU, hzU, hsU, hbU⟩ := info_parts infoEntRef
  have HU := Lib.hid (And.intro hiU (And.intro hzU (And.intro hsU hbU)))
  obtain ⟨n, hne⟩ : ∃ n, n = l.length := ⟨_, rfl⟩
  rw [← hne] at h hl ⊢
  have HA := Lib.hid (And.intro hne h)
  clear hne h hiU hzU hsU hbU
  go_enter Tryz.func68, Tryz.ntmps68
  go_wp2_with fail
  go_loopg [3, 8] n (fun k sl i wr => ∃ j : Nat, j + k = n ∧ i = .int .i64 j ∧ Keep NoB w wr ∧ wr.ownsRow w.heap.size 230 1 sl j ((l.take j).map Value.string))
  case atStart => exact ⟨0, by omega, rfl, Keep.refl _ _, rfl, .inl ⟨rfl, rfl⟩⟩
  case round =>
    obtain ⟨j, hj, rfl, hk, hown⟩ := hrel
    have HR := Lib.hid (And.intro hk hown)
    clear hk hown
    by_cases hlt : j < n
    · obtain ⟨hne, h⟩ := HA.out
      obtain ⟨hk, hown⟩ := HR.out
      obtain ⟨ov', c2, he, h⟩ := h
      simp only [Value.slice.injEq] at he
      obtain ⟨rfl, hx, rfl⟩ := he
      clear hx
      rcases h with h0 | ⟨bv, offv, rfl, hMv, hcell⟩
      · omega
      have hcv := (hcell j (by omega)).2.keep hk (NoB.not _) 0 _ rfl
      simp only [Nat.mul_one, Nat.add_zero] at hcv
      obtain ⟨vj, hvj⟩ : ∃ vj, vj = l.getD j ⟨#[]⟩ := ⟨_, rfl⟩
      rw [← hvj] at hcv
      have HV := Lib.hid (And.intro hvj hne)
      clear hne hcell hk hown hvj hMv
      go_wp2_with fail
      refine (astEntityType_c _ _).mono ?_
      rintro e w3 ⟨rfl, rfl⟩
      clear hcv
      go_wp2_with (at_builtin; refine wpList_append_own _ rfl _ _ 179 rfl w.heap.size 230 iU _ 1 16 Tryz.underlying179 HU.out.1 HU.out.2.1 HU.out.2.2.1 HU.out.2.2.2 rfl (by decide) _ _ _ rfl (HR.out.2.alloc _) ⟨w3.heap.size, 0, none⟩ 1 1 [.string vj] rfl rfl ?c1 ?c2 ?c3 ?c4 ?c5 ?_)
      case c1 =>
        intro q u hq
        rcases q with _ | q
        · cases hq; exact cell_cells (MapKept.heap_alloc w3 _).1 0
        · cases hq
      case c2 => intro u hu; simp only [List.mem_singleton] at hu; subst hu; rfl
      case c3 => unfold maxLen; omega
      case c4 => omega
      case c5 =>
        have h1 := HR.out.1.size
        rw [World.size_alloc]; omega
      intro v' w4 hown4 hgrow _
      obtain ⟨g, cap, rfl⟩ := owns_some hown4
      have kg := grown_keep HR.out.2 hgrow
      have HG := Lib.hid (And.intro hown4 kg)
      clear hown4 hgrow kg
      go_wp2_with fail
      go_roundg (gk - 1)
      case measure => omega
      case rel =>
        obtain ⟨hown4, kg⟩ := HG.out
        refine ⟨j + 1, by omega, by go_num, (HR.out.1.trans ((Keep.alloc w3 (.cells #[.string vj] 230) NoB).first kg) (fun _ _ h => h) (fun i hi h => by omega)), ?_⟩
        have hjl : j < l.length := by have := HV.out.2; omega
        have hv : vj = l[j] := by rw [HV.out.1, List.getD_eq_getElem?_getD, List.getElem?_eq_getElem hjl]; rfl
        rw [List.take_succ_eq_append_getElem hjl, List.map_append, ← hv, List.map_take]
        exact hown4
    · have hjn : j = n := by omega
      subst hjn
      obtain ⟨hk, hown⟩ := HR.out
      obtain ⟨o, nn, cc, hsl⟩ : ∃ o nn cc, _ = Value.slice o nn cc := by
        rcases hown.2 with ⟨h, _⟩ | ⟨g, cap, cur, h, _⟩ <;> exact ⟨_, _, _, h⟩
      subst hsl
      clear hk hown
      go_wp2_with fail
      go_ret
      obtain ⟨hk, hown⟩ := HR.out
      rw [HA.out.1, List.take_length] at hown
      exact ⟨o, nn, cc, rfl, (ownsRow_strs hown (fun i h => h)).2, hk⟩

theorem schemaRecord_of {w0 : World} {M : Nat → Prop} {l : List (Str × ATy × Bool)} {s : Str} {e a : Sl} (h : ITyIs w0 M (.record l) (tyV 6 s e a)) : ∀ w, Keep NoB w0 w → Calls Tryz.prog 69 #[slV a] w (ARecOut w l) := by
  intro w k
  generalize hv : tyV 6 s e a = v at h
  cases h with
  | record s e ao c kf sf ef af hn hL hc ht =>
    simp only [Value.agg.injEq, Array.mk.injEq, List.cons.injEq, Value.slice.injEq, and_true, true_and] at hv
    obtain ⟨_, _, h3, h4, h5⟩ := hv
    show Calls _ _ #[.slice a.1 a.2.1 a.2.2] _ _
    rw [h3, h4, h5]
    exact schemaRecord_c w0 M _ ao c kf sf ef af hn hL hc (fun i k t q hi => schemaType_c (ht i k t q hi)) w k

/-- A declaration of an entity type as it is given. -/
structure IEnt where
  parents : List Str
  attrs : List (Str × ATy × Bool)
  tags : Option ATy
def IEnt.ast (e : IEnt) : AEnt := ⟨e.parents, if e.attrs = [] then none else some e.attrs, e.tags⟩
structure IEntIs (w : World) (M : Nat → Prop) (nm : Str) (e : IEnt) (ps ats : Sl) (k : Int) (s : Str) (el al : Sl) : Prop where
  plen : ps.2.1 = e.parents.length
  pL : e.parents.length ≤ 1000000
  pz : ∀ p ∈ e.parents, p.size ≤ 1000000
  par : StrsAt w M e.parents (slV ps)
  att : ITyIs w M (.record e.attrs) (tyV 6 ⟨#[]⟩ (none, 0, 0) ats)
  tag : ∀ t, e.tags = some t → ITyIs w M t (tyV k s el al)
abbrev entV (nm : Str) (e : IEnt) (ps ats : Sl) (k : Int) (s : Str) (el al : Sl) : Value :=
  .agg #[.string nm, .slice ps.1 ps.2.1 ps.2.2, .slice ats.1 ats.2.1 ats.2.2, .bool e.tags.isSome, .int .i64 k, .string s, .slice el.1 el.2.1 el.2.2, .slice al.1 al.2.1 al.2.2]

theorem AShape_keep {w w' : World} {M M' M2 : Nat → Prop} (hk : Keep M2 w w') (h2 : ∀ i, i < w.heap.size → M2 i → M i) (h3 : ∀ i, i < w.heap.size → M' i → M i) {t : Option (List (Str × ATy × Bool))} {v : Value} (h : AShape w M t v) : AShape w' M' t v := by
  cases t with
  | none => exact h
  | some l => obtain ⟨b, e, h⟩ := h; exact ⟨b, e, h.keep hk h2 h3⟩
def EntOut (w : World) (e : IEnt) (en : Ending) (w' : World) : Prop := ∃ (a : Option Nat) (b : Sl) (c : Option Nat) (d : Value), en = .returned (.tuple #[.agg #[.map a, .slice b.1 b.2.1 b.2.2, .map c, d], .bool true]) ∧ d.oneCell' = true ∧ AEntIs w' (· < w.heap.size) e.ast (.agg #[.map a, .slice b.1 b.2.1 b.2.2, .map c, d]) ∧ Keep NoB w w'
set_option maxRecDepth 100000 in
set_option maxHeartbeats 8000000 in
theorem schemaEntity_c (w0 : World) (M : Nat → Prop) (nm : Str) (e : IEnt) (ps ats : Sl) (k : Int) (s : Str) (el al : Sl) (h : IEntIs w0 M nm e ps ats k s el al) (w : World) (k0 : Keep NoB w0 w) :
    Calls Tryz.prog 48 #[entV nm e ps ats k s el al] w (EntOut w e) := by
  obtain ⟨pn, hpn⟩ : ∃ pn, pn = ps.2.1 := ⟨_, rfl⟩
  have HA := Lib.hid (And.intro h k0)
  have k1 := (Keep.alloc w (.cells #[.string nm, .slice ps.1 ps.2.1 ps.2.2, .slice ats.1 ats.2.1 ats.2.2, .bool e.tags.isSome, .int .i64 k, .string s, .slice el.1 el.2.1 el.2.2, .slice al.1 al.2.1 al.2.2] 53) NoB).then (Keep.alloc _ (.cells #[.map none, .slice none 0 0, .map none, .nilIface] 185) NoB)
  have hb0 := (Keep.alloc (w.alloc (.cells #[.string nm, .slice ps.1 ps.2.1 ps.2.2, .slice ats.1 ats.2.1 ats.2.2, .bool e.tags.isSome, .int .i64 k, .string s, .slice el.1 el.2.1 el.2.2, .slice al.1 al.2.1 al.2.2] 53)) (.cells #[.map none, .slice none 0 0, .map none, .nilIface] 185) NoB).heap (MapKept.heap_alloc w (.cells #[.string nm, .slice ps.1 ps.2.1 ps.2.2, .slice ats.1 ats.2.1 ats.2.2, .bool e.tags.isSome, .int .i64 k, .string s, .slice el.1 el.2.1 el.2.2, .slice al.1 al.2.1 al.2.2] 53)).1 (NoB.not _)
  have hb1 := (MapKept.heap_alloc (w.alloc (.cells #[.string nm, .slice ps.1 ps.2.1 ps.2.2, .slice ats.1 ats.2.1 ats.2.2, .bool e.tags.isSome, .int .i64 k, .string s, .slice el.1 el.2.1 el.2.2, .slice al.1 al.2.1 al.2.2] 53)) (.cells #[.map none, .slice none 0 0, .map none, .nilIface] 185)).1
  rw [World.size_alloc] at hb1
  have HB := Lib.hid (And.intro k1 (And.intro hb0 hb1))
  clear h k0 k1 hb0 hb1 hpn
  go_enter Tryz.func48, Tryz.ntmps48
  go_wp2_with fail
  obtain ⟨hI, k0⟩ := HA.out
  obtain ⟨k1, hb0, hb1⟩ := HB.out
  have hrefs := schemaRefs_c ((w.alloc (.cells #[.string nm, .slice ps.1 ps.2.1 ps.2.2, .slice ats.1 ats.2.1 ats.2.2, .bool e.tags.isSome, .int .i64 k, .string s, .slice el.1 el.2.1 el.2.2, .slice al.1 al.2.1 al.2.2] 53)).alloc (.cells #[.map none, .slice none 0 0, .map none, .nilIface] 185)) M e.parents ps.1 ps.2.2 hI.pL (by
    have := StrsAt.keep.k (M' := M) (k0.then k1) (fun _ _ h => h.elim) (fun _ _ h => h) hI.par
    rw [← hI.plen]; exact this)
  rw [← hI.plen] at hrefs
  have HC := Lib.hid hrefs
  clear hrefs hI k0 k1 hb0 hb1
  refine HC.out.mono ?_
  rintro en w1 ⟨o, n1, c1, rfl, hpar, k2⟩
  obtain ⟨kB, hb0, hb1⟩ := HB.out
  have k3 := Keep.alloc w1 (.cells #[.map none, .slice o n1 c1, .map none, .nilIface] 185) NoB
  have hb2 := (MapKept.heap_alloc w1 (.cells #[.map none, .slice o n1 c1, .map none, .nilIface] 185)).1
  have hb0' := (k2.then k3).heap hb0 (NoB.not _)
  have f2 : (w1.alloc (.cells #[.map none, .slice o n1 c1, .map none, .nilIface] 185)).cell? ⟨w.heap.size, 2, none⟩ = some (.slice ats.1 ats.2.1 ats.2.2) := by rw [cell_cells hb0']; rfl
  have HD := Lib.hid (And.intro hpar (And.intro k2 (And.intro k3 (And.intro hb2 hb0'))))
  have HE := Lib.hid (schemaRecord_of HA.out.1.att _ (((HA.out.2.then kB).then k2).then k3))
  clear hpar k2 k3 hb2 hb0' kB hb0 hb1
  go_wp2_with fail
  refine HE.out.mono ?_
  rintro en w2 ⟨b, rfl, hrec, k4⟩
  clear f2
  obtain ⟨lv, hm, hlen⟩ : ∃ lv, KMap Value.string w2 b lv ∧ lv.length = e.attrs.length := by
    cases hrec with
    | record hm hM hn hl ha ht => exact ⟨_, hm, hl⟩
  have hlenr := KMapO.len (m := some b) hm Tryz.underlying181 3
  rw [hlen] at hlenr
  have hb2' := k4.heap HD.out.2.2.2.1 (NoB.not _)
  have hfz2 := frozen_cells hb2' 2
  have f2 : w2.cell? ⟨w1.heap.size, 2, none⟩ = some (.map none) := by rw [cell_cells hb2']; rfl
  have HF := Lib.hid (And.intro hrec (And.intro k4 hb2'))
  clear hrec k4 hm hlen hb2'
  go_upto_if 24 with fail
  go_cut [] (fun wx => ∃ mb, Keep NoB w wx ∧ w1.heap.size < wx.heap.size ∧ wx.heap[w.heap.size]? = some (.cells #[.string nm, .slice ps.1 ps.2.1 ps.2.2, .slice ats.1 ats.2.1 ats.2.2, .bool e.tags.isSome, .int .i64 k, .string s, .slice el.1 el.2.1 el.2.2, .slice al.1 al.2.1 al.2.2] 53 (0, 0)) ∧ wx.heap[w.heap.size + 1]? = some (.cells #[.map none, .slice none 0 0, .map none, .nilIface] 185 (0, 0)) ∧ wx.heap[w1.heap.size]? = some (.cells #[.map none, .slice o n1 c1, .map mb, .nilIface] 185 (0, 0)) ∧ AShape wx (fun i => i < w1.heap.size + 1) e.ast.shape (.map mb) ∧ StrsAt wx (fun i => i < w.heap.size + 2 ∨ i = w1.heap.size) e.parents (.slice o n1 c1))
  case first =>
    have hlt1 : w.heap.size + 2 ≤ w1.heap.size := by have := HD.out.2.1.size; simpa using this
    by_cases hat : e.attrs = []
    · have HN := Lib.hid hat
      rw [hat]
      clear hat
      go_wp2_with fail
      go_meet
      case rel =>
        obtain ⟨hpar, k2, k3, hb2, hb0⟩ := HD.out
        obtain ⟨hrec, k4, hb2'⟩ := HF.out
        obtain ⟨kB, _, hb1⟩ := HB.out
        refine ⟨none, ((kB.then k2).then k3).then k4, ?_, k4.heap hb0 (NoB.not _), ((k2.then k3).then k4).heap hb1 (NoB.not _), hb2', ?_, ?_⟩
        · have := k4.size; simp at this; omega
        · unfold IEnt.ast; rw [HN.out]; rfl
        · exact StrsAt.keep.k (k3.then k4) (fun _ _ h => h.elim) (fun i hi h => by show i < _; rcases h with h | h <;> simp <;> omega) hpar
    · have hpos : 0 < e.attrs.length := List.length_pos_iff.2 hat
      have HN := Lib.hid hat
      clear hat
      go_wp2_with fail
      go_meet
      case rel =>
        obtain ⟨hpar, k2, k3, hb2, hb0⟩ := HD.out
        obtain ⟨hrec, k4, hb2'⟩ := HF.out
        obtain ⟨kB, _, hb1⟩ := HB.out
        have ka := Keep.setCell (M := (· = w1.heap.size)) w2 ⟨w1.heap.size, 2, none⟩ (.map (some b)) (fun _ => rfl)
        have hlt2 : w1.heap.size < w2.heap.size := by have := k4.size; simp at this; omega
        refine ⟨some b, (((kB.then k2).then k3).then k4).trans ka (fun _ _ h => h) (fun i hi h => by omega), Nat.lt_of_lt_of_le hlt2 ka.size, ka.heap (k4.heap hb0 (NoB.not _)) (fun h => by omega), ka.heap (((k2.then k3).then k4).heap hb1 (NoB.not _)) (fun h => by omega), setCell_cells hb2' 2 _, ?_, ?_⟩
        · unfold IEnt.ast
          rw [if_neg HN.out]
          exact ⟨b, rfl, hrec.keep ka (fun i hi h => by show i < _; simp; omega) (fun i hi (h : i < w1.heap.size + 1) => by show i < _; simp; omega)⟩
        · have := StrsAt.keep.k (M' := fun i => i < w.heap.size + 2 ∨ i = w1.heap.size) (k3.then k4) (fun _ _ h => h.elim) (fun i hi h => by show i < _; rcases h with h | h <;> simp <;> omega) hpar
          exact StrsAt.keep.k ka (fun i hi h => .inr h) (fun i hi h => h) this
  case rest =>
    obtain ⟨mb, kx, hszx, hb0, hb1, hb2, hsh, hpar⟩ := hcut
    have f3 : wc.cell? ⟨w.heap.size, 3, none⟩ = some (.bool e.tags.isSome) := by rw [cell_cells hb0]; rfl
    have HG := Lib.hid (And.intro kx (And.intro hszx (And.intro hb0 (And.intro hb1 (And.intro hb2 (And.intro hsh hpar))))))
    clear kx hszx hb0 hb1 hb2 hsh hpar
    go_upto_if 28 with fail
    go_cut [7, 8] (fun s7 s8 wx => ∃ d, Keep NoB w wx ∧ d.oneCell' = true ∧ wx.heap[w.heap.size + 1]? = some (.cells #[.map none, .slice none 0 0, .map none, .nilIface] 185 (0, 0)) ∧ wx.heap[w1.heap.size]? = some (.cells #[.map none, .slice o n1 c1, .map mb, d] 185 (0, 0)) ∧ AShape wx (fun i => i < w.heap.size + 2) e.ast.shape (.map mb) ∧ ATags wx (fun i => i < w.heap.size + 2) e.tags d ∧ StrsAt wx (fun i => i < w.heap.size + 2) e.parents (.slice o n1 c1))
    case first =>
      have hlt1 : w.heap.size + 2 ≤ w1.heap.size := by have := HD.out.2.1.size; simpa using this
      cases htg : e.tags with
      | none =>
        have HT := Lib.hid htg
        rw [htg] at f3
        clear htg
        go_wp2_with fail
        go_meet
        case rel =>
          obtain ⟨kx, hszx, hb0, hb1, hb2, hsh, hpar⟩ := HG.out
          exact ⟨.nilIface, kx, rfl, hb1, hb2, AShape_keep (Keep.refl NoB _) (fun _ _ h => h.elim) (fun i hi (h : i < w.heap.size + 2) => by show i < _; omega) hsh, (by rw [HT.out]; rfl), StrsAt.keep.k (Keep.refl NoB _) (fun _ _ h => h.elim) (fun i hi h => .inl h) hpar⟩
      | some t =>
        have HT := Lib.hid htg
        obtain ⟨kx, hszx, hb0, hb1, hb2, hsh, hpar⟩ := HG.out
        have f4 : wc.cell? ⟨w.heap.size, 4, none⟩ = some (.int .i64 k) := by rw [cell_cells hb0]; rfl
        have f5 : wc.cell? ⟨w.heap.size, 5, none⟩ = some (.string s) := by rw [cell_cells hb0]; rfl
        have f6 : wc.cell? ⟨w.heap.size, 6, none⟩ = some (.slice el.1 el.2.1 el.2.2) := by rw [cell_cells hb0]; rfl
        have f7 : wc.cell? ⟨w.heap.size, 7, none⟩ = some (.slice al.1 al.2.1 al.2.2) := by rw [cell_cells hb0]; rfl
        have HC2 := Lib.hid (schemaType_c (HA.out.1.tag t htg) wc (HA.out.2.then kx))
        rw [htg] at f3
        clear htg kx hszx hb0 hb1 hb2 hsh hpar
        go_wp2_with fail
        refine HC2.out.mono ?_
        rintro en w5 ⟨T, x, rfl, hty, k5⟩
        clear f3 f4 f5 f6 f7
        obtain ⟨kx, hszx, hb0, hb1, hb2, hsh, hpar⟩ := HG.out
        have hb2' := k5.heap hb2 (NoB.not _)
        have hfz2 := frozen_cells hb2' 3
        have f2 : w5.cell? ⟨w1.heap.size, 3, none⟩ = some .nilIface := by rw [cell_cells hb2']; rfl
        have HQ := Lib.hid (And.intro hty (And.intro k5 hb2'))
        clear hty k5 hb2' kx hszx hb0 hb1 hb2 hsh hpar
        go_wp2_with fail
        go_meet
        case rel =>
          obtain ⟨kx, hszx, hb0, hb1, hb2, hsh, hpar⟩ := HG.out
          obtain ⟨hty, k5, hb2'⟩ := HQ.out
          have ka := Keep.setCell (M := (· = w1.heap.size)) w5 ⟨w1.heap.size, 3, none⟩ (.iface T x) (fun _ => rfl)
          have hpar2 := StrsAt.keep.k (M' := fun i => i < w.heap.size + 2 ∨ i = w1.heap.size) k5 (fun _ _ h => h.elim) (fun _ _ h => h) hpar
          refine ⟨.iface T x, (kx.then k5).trans ka (fun _ _ h => h) (fun i hi h => by omega), rfl, ka.heap (k5.heap hb1 (NoB.not _)) (fun h => by omega), setCell_cells hb2' 3 _, AShape_keep ka (fun i hi h => by show i < _; omega) (fun i hi (h : i < w.heap.size + 2) => by show i < _; omega) (AShape_keep (M' := fun i => i < w1.heap.size + 1) k5 (fun _ _ h => h.elim) (fun _ _ h => h) hsh), ?_, ?_⟩
          · rw [HT.out]
            exact ATyIs.keep ka (fun i hi h => by show i < _; omega) (fun i hi (h : i < w.heap.size + 2) => by show i < _; omega) hty
          · exact StrsAt.keep.k ka (fun i hi h => .inr h) (fun i hi h => .inl h) hpar2
    case rest =>
      obtain ⟨d, kx, hone, hb1, hb2, hsh, htg, hpar⟩ := hcut
      have g0 : wc.cell? ⟨w1.heap.size, 0, none⟩ = some (.map none) := by rw [cell_cells hb2]; rfl
      have g1 : wc.cell? ⟨w1.heap.size, 1, none⟩ = some (.slice o n1 c1) := by rw [cell_cells hb2]; rfl
      have g2 : wc.cell? ⟨w1.heap.size, 2, none⟩ = some (.map mb) := by rw [cell_cells hb2]; rfl
      have g3 : wc.cell? ⟨w1.heap.size, 3, none⟩ = some d := by rw [cell_cells hb2]; rfl
      have hst := fun w a m => run_store Tryz.prog w a d m hone
      have p0 : wc.cell? ⟨w.heap.size + 1, 0, none⟩ = some (.map none) := by rw [cell_cells hb1]; rfl
      have p1 : wc.cell? ⟨w.heap.size + 1, 1, none⟩ = some (.slice none 0 0) := by rw [cell_cells hb1]; rfl
      have p2 : wc.cell? ⟨w.heap.size + 1, 2, none⟩ = some (.map none) := by rw [cell_cells hb1]; rfl
      have p3 : wc.cell? ⟨w.heap.size + 1, 3, none⟩ = some .nilIface := by rw [cell_cells hb1]; rfl
      have z0 := frozen_cells hb1 0
      have z1 := frozen_cells hb1 1
      have z2 := frozen_cells hb1 2
      have z3 := frozen_cells hb1 3
      have HQ := Lib.hid (And.intro kx (And.intro hone (And.intro hb1 (And.intro hb2 (And.intro hsh (And.intro htg hpar))))))
      clear kx hone hb1 hb2 hsh htg hpar f3
      go_wp2_with fail
      obtain ⟨kx, hone, hb1, hb2, hsh, htg, hpar⟩ := HQ.out
      have hz := setCell_cells (setCell_cells (setCell_cells (setCell_cells hb1 0 (.map none)) 1 (.slice o n1 c1)) 2 (.map mb)) 3 d
      have ks := ((Keep.setCell (M := (· = w.heap.size + 1)) wc ⟨w.heap.size + 1, 0, none⟩ (.map none) (fun _ => rfl)).trans (Keep.setCell (M := (· = w.heap.size + 1)) _ ⟨w.heap.size + 1, 1, none⟩ (.slice o n1 c1) (fun _ => rfl)) (M'' := (· = w.heap.size + 1)) (fun _ _ h => h) (fun _ _ h => h)).trans ((Keep.setCell (M := (· = w.heap.size + 1)) _ ⟨w.heap.size + 1, 2, none⟩ (.map mb) (fun _ => rfl)).trans (Keep.setCell (M := (· = w.heap.size + 1)) _ ⟨w.heap.size + 1, 3, none⟩ d (fun _ => rfl)) (M'' := (· = w.heap.size + 1)) (fun _ _ h => h) (fun _ _ h => h)) (M'' := (· = w.heap.size + 1)) (fun _ _ h => h) (fun _ _ h => h)
      generalize ((((wc.setCell ⟨w.heap.size + 1, 0, none⟩ (.map none)).setCell ⟨w.heap.size + 1, 1, none⟩ (.slice o n1 c1)).setCell ⟨w.heap.size + 1, 2, none⟩ (.map mb)).setCell ⟨w.heap.size + 1, 3, none⟩ d) = wz at hz ks ⊢
      replace hz : wz.heap[w.heap.size + 1]? = some (.cells #[.map none, .slice o n1 c1, .map mb, d] 185 (0, 0)) := hz
      have q0 : wz.cell? ⟨w.heap.size + 1, 0, none⟩ = some (.map none) := by rw [cell_cells hz]; rfl
      have q1 : wz.cell? ⟨w.heap.size + 1, 1, none⟩ = some (.slice o n1 c1) := by rw [cell_cells hz]; rfl
      have q2 : wz.cell? ⟨w.heap.size + 1, 2, none⟩ = some (.map mb) := by rw [cell_cells hz]; rfl
      have q3 : wz.cell? ⟨w.heap.size + 1, 3, none⟩ = some d := by rw [cell_cells hz]; rfl
      have kwz : Keep NoB w wz := kx.trans ks (fun _ _ h => h) (fun i hi h => by omega)
      have hlt1 : w.heap.size + 2 ≤ w1.heap.size := by have := HD.out.2.1.size; simpa using this
      refine bodyPost_ret (v := .tuple #[.agg #[.map none, .slice o n1 c1, .map mb, d], .bool true]) ?_ rfl ⟨none, (o, n1, c1), mb, d, rfl, hone, ⟨none, _, _, _, rfl, ?_, HA.out.1.pz, ?_, ?_⟩, kwz⟩
      · simp [results, Tryz.results48, go_sem, q0, q1, q2, q3, Result.andThen]
      · exact StrsAt.keep.k ks (fun i hi h => by show i < _; omega) (fun i hi (h : i < w.heap.size) => by show i < _; omega) hpar
      · exact AShape_keep ks (fun i hi h => by show i < _; omega) (fun i hi (h : i < w.heap.size) => by show i < _; omega) hsh
      · show ATags _ _ e.tags d
        cases hq : e.tags with
        | none => rw [hq] at htg; exact htg
        | some t => rw [hq] at htg; exact ATyIs.keep ks (fun i hi h => by show i < _; omega) (fun i hi (h : i < w.heap.size) => by show i < _; omega) htg
end Go.Proofs.YtedgonoeeeiilaaGreatDoor
