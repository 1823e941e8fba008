/- Types as they are told back: how they lie in memory, what a resolved type means; the walks of meantType and meantAttrs. -/
import Derived.Test.YthhjehajdcgkhaaGreatDoorKs
import Derived.Test.YthhjehajdcgkhaaGreatDoorRow
import Derived.Deep.RegionHeld3
import Derived.Deep.AppendLies
namespace Go.Proofs.YthhjehajdcgkhaaGreatDoor
open Go.RowKit

/-- A type as it is told, without conditions. -/
inductive OTyIs (w : World) (M : Nat → Prop) : ATy → Value → Prop
  | str (s : Str) (e a : Sl) : OTyIs w M .str (tyV 1 s e a)
  | long (s : Str) (e a : Sl) : OTyIs w M .long (tyV 2 s e a)
  | bool (s : Str) (e a : Sl) : OTyIs w M .bool (tyV 3 s e a)
  | ext (s : Str) (e a : Sl) : OTyIs w M (.ext s) (tyV 4 s e a)
  | set {t : ATy} (s : Str) (b off c : Nat) (a : Sl) (k' : Int) (s' : Str) (e' a' : Sl) : ¬ M b → CellsAt w b off [.int .i64 k', .string s', slV e', slV a'] → OTyIs w M t (tyV k' s' e' a') → OTyIs w M (.set t) (tyV 5 s (some ⟨b, off, none⟩, 1, c) a)
  | record {l : List (Str × ATy × Bool)} (s : Str) (e : Sl) (ao : Option Addr) (c : Nat) (kf : Nat → Int) (sf : Nat → Str) (ef af : Nat → Sl) :
      (l = [] ∨ ∃ b off, ao = some ⟨b, off, none⟩ ∧ ¬ M b ∧ ∀ i k t q, l[i]? = some (k, t, q) → CellsAt w b (off + i * 6) [.string k, .bool q, .int .i64 (kf i), .string (sf i), slV (ef i), slV (af i)]) →
      (∀ i k t q, l[i]? = some (k, t, q) → OTyIs w M t (tyV (kf i) (sf i) (ef i) (af i))) → OTyIs w M (.record l) (tyV 6 s e (ao, l.length, c))
  | ent (s : Str) (e a : Sl) : OTyIs w M (.ent s) (tyV 7 s e a)
  | ref (s : Str) (e a : Sl) : OTyIs w M (.ref s) (tyV 8 s e a)

theorem ITyIs.told {w : World} {M : Nat → Prop} {t : ATy} {v : Value} (h : ITyIs w M t v) : OTyIs w M t v := by
  induction h with
  | str s e a => exact .str s e a
  | long s e a => exact .long s e a
  | bool s e a => exact .bool s e a
  | ext s e a _ => exact .ext s e a
  | set s b off c a k' s' e' a' hM hc _ ih => exact .set s b off c a k' s' e' a' hM hc ih
  | record s e ao c kf sf ef af _ _ hc _ ih => exact .record s e ao c kf sf ef af hc ih
  | ent s e a _ => exact .ent s e a
  | ref s e a _ => exact .ref s e a
theorem OTyIs.keep {w w' : World} {M M' M2 : Nat → Prop} {t : ATy} {v : Value} (h : OTyIs w M t v) (hk : Keep M2 w w') (h2 : ∀ i, i < w.heap.size → M2 i → M i) (h3 : ∀ i, i < w.heap.size → M' i → M i) : OTyIs w' M' t v := by
  induction h with
  | str s e a => exact .str s e a
  | long s e a => exact .long s e a
  | bool s e a => exact .bool s e a
  | ext s e a => exact .ext s e a
  | set s b off c a k' s' e' a' hM hc _ ih =>
    have hb : b < w.heap.size := block_lt_of_cell (hc 0 _ rfl)
    exact .set s b off c a k' s' e' a' (fun q => hM (h3 b hb q)) (hc.keep hk fun q => hM (h2 b hb q)) ih
  | @record l s e ao c kf sf ef af hc _ ih =>
    refine .record s e ao c kf sf ef af ?_ ih
    rcases hc with h | ⟨b, off, e1, hM, hc⟩
    · exact .inl h
    · cases l with
      | nil => exact .inl rfl
      | cons x l =>
        have hb : b < w.heap.size := block_lt_of_cell (hc 0 x.1 x.2.1 x.2.2 rfl 0 _ rfl)
        exact .inr ⟨b, off, e1, fun q => hM (h3 b hb q), fun i k t q hi => (hc i k t q hi).keep hk fun z => hM (h2 b hb z)⟩
  | ent s e a => exact .ent s e a
  | ref s e a => exact .ref s e a

/-- One attribute's cells. -/
def AttrC (w : World) (M : Nat → Prop) (x : Str × ATy × Bool) (cs : List Value) : Prop := ∃ kk s e al, cs = [.string x.1, .bool x.2.2, .int .i64 kk, .string s, slV e, slV al] ∧ OTyIs w M x.2.1 (tyV kk s e al)
theorem AttrC.keeps : KeepsC AttrC := ⟨fun hk h2 h3 ⟨kk, s, e, al, e1, h⟩ => ⟨kk, s, e, al, e1, h.keep hk h2 h3⟩⟩

theorem OTyIs.mkRecord {w : World} {M : Nat → Prop} {l : List (Str × ATy × Bool)} {ao : Option Addr} (h : l = [] ∨ ∃ b off, ao = some ⟨b, off, none⟩ ∧ ¬ M b ∧ ∀ i x, l[i]? = some x → ∃ cs, CellsAt w b (off + i * 6) cs ∧ AttrC w M x cs) (s : Str) (e : Sl) (c : Nat) : OTyIs w M (.record l) (tyV 6 s e (ao, l.length, c)) := by
  rcases h with rfl | ⟨b, off, e1, hM, h⟩
  · exact .record s e ao c (fun _ => 0) (fun _ => ⟨#[]⟩) (fun _ => (none, 0, 0)) (fun _ => (none, 0, 0)) (.inl rfl) (fun i k t q h => by simp at h)
  · have h' : ∀ i, ∃ (kk : Int) (s : Str) (e al : Sl), ∀ x, l[i]? = some x → CellsAt w b (off + i * 6) [.string x.1, .bool x.2.2, .int .i64 kk, .string s, slV e, slV al] ∧ OTyIs w M x.2.1 (tyV kk s e al) := by
      intro i
      cases hi : l[i]? with
      | none => exact ⟨0, ⟨#[]⟩, (none, 0, 0), (none, 0, 0), fun x h => by cases h⟩
      | some x =>
        obtain ⟨cs, h1, kk, s, e, al, rfl, h2⟩ := h i x hi
        exact ⟨kk, s, e, al, fun y hy => by cases hy; exact ⟨h1, h2⟩⟩
    refine .record s e ao c (fun i => (h' i).choose) (fun i => (h' i).choose_spec.choose) (fun i => (h' i).choose_spec.choose_spec.choose) (fun i => (h' i).choose_spec.choose_spec.choose_spec.choose) (.inr ⟨b, off, e1, hM, fun i k t q hi => ?_⟩) (fun i k t q hi => ?_)
    · exact ((h' i).choose_spec.choose_spec.choose_spec.choose_spec _ hi).1
    · exact ((h' i).choose_spec.choose_spec.choose_spec.choose_spec _ hi).2

/-- What a resolved type means: the same, the attributes of records in the order of their names. -/
inductive Meant : RTy → ATy → Prop
  | str : Meant .str .str
  | long : Meant .long .long
  | bool : Meant .bool .bool
  | ext (s : Str) : Meant (.ext s) (.ext s)
  | set {t : RTy} {a : ATy} : Meant t a → Meant (.set t) (.set a)
  | record {l : List (Str × RTy × Bool)} {l' : List (Str × ATy × Bool)} (f : Str → ATy) : (l'.map (·.1)).Pairwise leS → (l'.map (·.1)).Perm (l.map (·.1)) →
      (∀ k t o, (k, t, o) ∈ l → (k, f k, o) ∈ l') → (∀ k t o, (k, t, o) ∈ l → Meant t (f k)) → Meant (.record l) (.record l')
  | ent (s : Str) : Meant (.ent s) (.ent s)
theorem Meant.mkRecord {l : List (Str × RTy × Bool)} {l' : List (Str × ATy × Bool)} (hn : (l.map (·.1)).Nodup) (hs : (l'.map (·.1)).Pairwise leS) (hp : (l'.map (·.1)).Perm (l.map (·.1))) (h : ∀ x ∈ l', ∃ t, (x.1, t, x.2.2) ∈ l ∧ Meant t x.2.1) : Meant (.record l) (.record l') := by
  have hn' : (l'.map (·.1)).Nodup := hp.nodup_iff.2 hn
  have key : ∀ k t o, (k, t, o) ∈ l → ∃ a, (k, a, o) ∈ l' ∧ Meant t a ∧ ((kget l' k).map (·.1)).getD .str = a := by
    intro k t o hk
    have : k ∈ l'.map (·.1) := hp.mem_iff.2 (List.mem_map.2 ⟨_, hk, rfl⟩)
    obtain ⟨⟨k', a, o'⟩, hx, rfl⟩ := List.mem_map.1 this
    obtain ⟨t', h1, h2⟩ := h _ hx
    have := key_unique hn hk h1
    simp only [Prod.mk.injEq] at this
    obtain ⟨rfl, rfl⟩ := this
    exact ⟨a, hx, h2, by rw [kget_mem hn' hx]; rfl⟩
  refine .record (fun k => ((kget l' k).map (·.1)).getD .str) hs hp (fun k t o hk => ?_) (fun k t o hk => ?_)
  · obtain ⟨a, h1, h2, h3⟩ := key k t o hk
    rw [h3]; exact h1
  · obtain ⟨a, h1, h2, h3⟩ := key k t o hk
    rw [h3]; exact h2

/-- A resolved type whose records are small. -/
inductive ROk : RTy → Prop
  | str : ROk .str
  | long : ROk .long
  | bool : ROk .bool
  | ext (s : Str) : ROk (.ext s)
  | set {t : RTy} : ROk t → ROk (.set t)
  | record {l : List (Str × RTy × Bool)} : l.length ≤ 3000000 → (∀ k t o, (k, t, o) ∈ l → k.size ≤ 3000000) → (∀ k t o, (k, t, o) ∈ l → ROk t) → ROk (.record l)
  | ent (s : Str) : ROk (.ent s)

/-- The answers. -/
def MeantTy (w : World) (t : RTy) (e : Ending) (w' : World) : Prop := ∃ a k s el al, Meant t a ∧ e = .returned (tyV k s el al) ∧ OTyIs w' (· < w.heap.size) a (tyV k s el al) ∧ Keep NoB w w'
def MeantRec (w : World) (l : List (Str × RTy × Bool)) (e : Ending) (w' : World) : Prop := ∃ l' o c, Meant (.record l) (.record l') ∧ e = .returned (.slice o l'.length c) ∧ (∀ s e, OTyIs w' (· < w.heap.size) (.record l') (tyV 6 s e (o, l'.length, c))) ∧ Keep NoB w w'

theorem infoAttr : (Tryz.prog.info? 32).map (fun i => (i.zero, i.size, i.bytes)) = some (some (.agg #[.string ⟨#[]⟩, .bool false, .int .i64 0, .string ⟨#[]⟩, .slice none 0 0, .slice none 0 0]), 6, 96) := by kernel_rfl
theorem zeroRAttr (w : World) : (zeroValue 162).run Tryz.prog w = .ok (.agg #[.nilIface, .bool false, .map none]) w := by kernel_rfl
theorem rattr_f0 (a b c : Value) (w : World) : (Instr.field 162 (.agg #[a, b, c]) 0).run Tryz.prog w = .ok a w := by kernel_rfl
theorem rattr_f1 (a b c : Value) (w : World) : (Instr.field 162 (.agg #[a, b, c]) 1).run Tryz.prog w = .ok b w := by kernel_rfl

set_option maxRecDepth 100000 in
set_option maxHeartbeats 8000000 in
theorem meantAttrs_c (w0 : World) (l : List (Str × RTy × Bool)) (m : Option Nat) (lv : List (Str × Value)) (f : Str → Value) (an : Str → Option Nat)
    (hm : KMapO Value.string w0 m lv) (hn : (l.map (·.1)).Nodup) (hl : lv.length = l.length) (ha : ∀ k t o, (k, t, o) ∈ l → (k, .agg #[f k, .bool o, .map (an k)]) ∈ lv)
    (hL : l.length ≤ 3000000) (hz : ∀ k t o, (k, t, o) ∈ l → k.size ≤ 3000000) (hc : ∀ k t o, (k, t, o) ∈ l → ∀ w, Keep NoB w0 w → Calls Tryz.prog 22 #[f k] w (MeantTy w t)) (w : World) (k0 : Keep NoB w0 w) :
    Calls Tryz.prog 21 #[.map m] w (MeantRec w l) := by
  obtain ⟨iU, hiU, hzU, hsU, hbU⟩ := info_parts infoAttr
  have HU := Lib.hid (And.intro hiU (And.intro hzU (And.intro hsU hbU)))
  have hlvn := hm.nodup
  have hback := entry_back (κ := Str) (α := RTy × Bool) hn hlvn hl (fun k x => .agg #[f k, .bool x.2, .map (an k)]) (fun k x hx => ha k x.1 x.2 hx)
  have hperm : (lv.map (·.1)).Perm (l.map (·.1)) := by
    refine (List.perm_ext_iff_of_nodup hlvn hn).2 fun k => ⟨fun h => ?_, fun h => ?_⟩
    · obtain ⟨⟨k, v⟩, h1, rfl⟩ := List.mem_map.1 h
      obtain ⟨x, hx, _⟩ := hback k v h1
      exact List.mem_map.2 ⟨_, hx, rfl⟩
    · obtain ⟨⟨k, t, o⟩, h1, rfl⟩ := List.mem_map.1 h
      exact List.mem_map.2 ⟨_, ha k t o h1, rfl⟩
  have HK := Lib.hid (keysRec_c w m)
  have HS := Lib.hid (sortedRec_c w m lv (hm.keep k0 (fun _ _ => NoB.not _)) (by omega) (fun p hp => by
    obtain ⟨x, hx, _⟩ := hback p.1 p.2 hp
    exact hz p.1 x.1 x.2 hx))
  have HL := Lib.hid (show ∀ k t o, (k, t, o) ∈ l → ∀ x, Keep NoB w0 x → (Instr.lookup 86 (.map m) (.string k) false).run Tryz.prog x = .ok (.agg #[f k, .bool o, .map (an k)]) x from fun k t o hk x hx => by
    rw [KMapO.lookup (hm.keep hx (fun _ _ => NoB.not _)) (strKey Tryz.underlying103) Tryz.underlying86 (zeroRAttr x) k false, kget_mem hlvn (ha k t o hk)]; rfl)
  have HA := Lib.hid (And.intro hn (And.intro hperm (And.intro hL (And.intro hc k0))))
  have HB := Lib.hid hl
  clear hm hn hl ha hL hz hc k0 hlvn hback hperm hiU hzU hsU hbU
  go_enter Tryz.func21, Tryz.ntmps21
  go_wp2_with fail
  refine HK.out.mono ?_
  rintro e w1 ⟨rfl, hw1⟩
  subst hw1
  go_wp2_with fail
  refine HS.out.mono ?_
  rintro e w2 ⟨ks, o, c, rfl, hp, hpw, hat, k2⟩
  obtain ⟨n, hkn⟩ : ∃ n, n = ks.length := ⟨_, rfl⟩
  rw [← hkn]
  have hnL : n ≤ 3000000 := by
    have h1 := (hp.trans HA.out.2.1).length_eq
    have h2 := HA.out.2.2.1
    rw [List.length_map] at h1; omega
  have HC := Lib.hid (And.intro hkn (And.intro hp (And.intro hpw (And.intro hat k2))))
  clear hkn hp hpw hat k2
  go_wp2_with fail
  go_loopg [3, 5, 10] n (fun g sl t5 i wr => ∃ (j : Nat) (l' : List (Str × ATy × Bool)), j + g = n ∧ i = .int .i64 j ∧ Keep NoB w2 wr ∧ RowIs AttrC wr w2.heap.size 32 6 sl l' ∧ l'.map (·.1) = ks.take j ∧ ∀ x ∈ l', ∃ t, (x.1, t, x.2.2) ∈ l ∧ Meant t x.2.1)
  case atStart => exact ⟨0, [], by omega, rfl, Keep.refl _ _, RowIs.nil _ _ _ _ _, rfl, fun _ h => by simp at h⟩
  case round =>
    obtain ⟨j, l', hj, rfl, hk, hrow, hkeys, hdone⟩ := hrel
    have hlen : l'.length = j := by
      have h1 := congrArg List.length hkeys
      have h2 := HC.out.1
      rw [List.length_map, List.length_take] at h1; omega
    have HR := Lib.hid (And.intro hk (And.intro hrow (And.intro hkeys (And.intro hdone hlen))))
    clear hk hrow hkeys hdone hlen
    by_cases hlt : j < n
    · obtain ⟨hkn, hp, hpw, hat, k2⟩ := HC.out
      obtain ⟨hk, hrow, hkeys, hdone, hlen⟩ := HR.out
      obtain ⟨kj, hkj⟩ : ∃ kj, ks[j]? = some kj := ⟨_, List.getElem?_eq_getElem (by omega)⟩
      obtain ⟨t, ob, hm⟩ : ∃ t ob, (kj, t, ob) ∈ l := by
        have h1 : kj ∈ l.map (·.1) := (hp.trans HA.out.2.1).mem_iff.1 (List.mem_of_getElem? hkj)
        obtain ⟨⟨k, t, o⟩, h2, rfl⟩ := List.mem_map.1 h1
        exact ⟨t, o, h2⟩
      obtain ⟨ov', c2, he, hcells⟩ := hat
      simp only [Value.slice.injEq] at he
      obtain ⟨rfl, hx, rfl⟩ := he
      clear hx
      rcases hcells with h0 | ⟨bv, offv, rfl, hMv, hcell⟩
      · omega
      have hcv := (hcell j (by omega)).2.keep hk (NoB.not _) 0 _ rfl
      simp only [Nat.mul_one, Nat.add_zero] at hcv
      have hkj' : ks.getD j ⟨#[]⟩ = kj := by rw [List.getD_eq_getElem?_getD, hkj]; rfl
      rw [hkj'] at hcv
      have kwr : Keep NoB w0 wr := ((HA.out.2.2.2.2).then k2).then hk
      have HM := Lib.hid (And.intro hm (And.intro hkj kwr))
      have HQ := Lib.hid (HA.out.2.2.2.1 kj t ob hm)
      have HLk := Lib.hid (HL.out kj t ob hm)
      have hlk := HL.out kj t ob hm wr.drew (kwr.then (Keep.drew _ _))
      clear hkn hp hpw k2 hk hrow hkeys hdone hlen hkj hm hMv hcell hkj' kwr
      obtain ⟨w3, rfl⟩ : ∃ w3 : World, w3 = wr := ⟨_, rfl⟩
      go_wp2_with fail
      clear hcv
      have hf0 := rattr_f0
      have hf1 := rattr_f1
      go_region_held3 (fun x => (Instr.lookup 86 (.map m) (.string kj) false).run Tryz.prog x = .ok (.agg #[f kj, .bool ob, .map (an kj)]) x)
        (first | assumption | exact HLk.out _ ((HM.out.2.2.then (Keep.drew _ _)).then k4) | exact HLk.out _ (((HM.out.2.2.then (Keep.drew _ _)).then k4).then (Keep.alloc _ _ _)) | exact HLk.out _ (HX.out.1))
        ((first
          | (go_at_call 22; refine (HQ.out _ (HM.out.2.2.then (Keep.drew _ _))).mono ?_; rintro e w4 ⟨a, kk, s, el, al, hmt, rfl, hty, k4⟩)
          | (obtain ⟨xs, hown, hpush⟩ := ((HR.out.2.1.keep0 AttrC.keeps ((Keep.drew _ _).then k4)).keep0 AttrC.keeps (Keep.alloc w4 (.cells #[.string kj, .bool ob, .int .i64 kk, .string s, .slice el.1 el.2.1 el.2.2, .slice al.1 al.2.1 al.2.2] 32) NoB)).opened AttrC.keeps
             refine step_append_lies _ (by rfl) _ _ _ (by rfl) w2.heap.size 32 iU _ 6 96 Tryz.underlying26 HU.out.1 HU.out.2.1 HU.out.2.2.1 HU.out.2.2.2 rfl (by omega) _ _ xs (by rfl) hown
               ⟨w4.heap.size, 0, none⟩ 1 1 [.string kj, .bool ob, .int .i64 kk, .string s, .slice el.1 el.2.1 el.2.2, .slice al.1 al.2.1 al.2.2] (by rfl) (by rfl) (World.news_of_block (cs := #[.string kj, .bool ob, .int .i64 kk, .string s, .slice el.1 el.2.1 el.2.2, .slice al.1 al.2.1 al.2.2]) (t := 32) (fr := (0, 0)) (heap_alloc_new w4 _)) (by simp [Value.oneCell'])
               (by omega) (by rw [HR.out.2.2.2.2]; unfold maxLen; omega) (by rw [HR.out.2.2.2.2]; omega) (by have h1 := HR.out.1.size; have h2 := k4.size; simp at h2; simp; omega) (w4.heap.size + 1) (by simp) ?_
             intro gg cap w5 hown5 hgrow hgat hglt
             obtain ⟨hr5, hk5⟩ := hpush gg cap w5 (kj, a, ob) [.string kj, .bool ob, .int .i64 kk, .string s, .slice el.1 el.2.1 el.2.2, .slice al.1 al.2.1 al.2.2] rfl
               ⟨kk, s, el, al, rfl, hty.keep (Keep.alloc _ _ NoB) (fun _ _ h => h.elim) (fun i hi h => by
                 have h1 := HR.out.1.size
                 rcases h with h | h
                 · exact (HR.out.2.1.lt i h).2
                 · show i < _; simp; omega)⟩ hown5 hgrow (by simpa using hgat)
             have kk5 := (((HR.out.1.then (Keep.drew _ _)).then k4).then (Keep.alloc _ _ _)).trans hk5 (M'' := NoB) (fun _ _ h => h) (fun i hi h => by have := (HR.out.2.1.lt i h).1; omega)
             have HX := Lib.hid (And.intro (((HA.out.2.2.2.2).then HC.out.2.2.2.2).then kk5) (And.intro kk5 (And.intro hr5 hmt)))
             clear hr5 hk5 kk5 hown5 hgrow hgat hglt hown hpush hty k4 hmt)))
      all_goals
        clear hf0 hf1 hlk
        go_wp2_with fail
        go_roundg (gk - 1)
        case measure => omega
        case rel =>
          obtain ⟨_, kk5, hr5, hmt⟩ := HX.out
          refine ⟨j + 1, l' ++ [(kj, a, ob)], by omega, by go_num, kk5, hr5, ?_, fun x hx => ?_⟩
          · obtain ⟨hj1, hj2⟩ := List.getElem?_eq_some_iff.1 HM.out.2.1
            rw [List.map_append, HR.out.2.2.1, List.take_succ_eq_append_getElem hj1, hj2]; rfl
          · rcases List.mem_append.1 hx with hx | hx
            · exact HR.out.2.2.2.1 x hx
            · simp only [List.mem_singleton] at hx
              subst hx
              exact ⟨t, HM.out.1, hmt⟩
    · have hjn : j = n := by omega
      subst hjn
      obtain ⟨o', c', hsl⟩ := HR.out.2.1.shape
      subst hsl
      clear hj
      go_wp2_with fail
      go_ret
      obtain ⟨hk, hrow, hkeys, hdone, hlen⟩ := HR.out
      obtain ⟨hkn, hp, hpw, hat, k2⟩ := HC.out
      rw [hkn, List.take_length] at hkeys
      obtain ⟨ov, cv, hv, hov⟩ := hrow.over AttrC.keeps
      cases hv
      refine ⟨l', _, _, Meant.mkRecord HA.out.1 (hkeys ▸ hpw) (hkeys ▸ (hp.trans HA.out.2.1)) hdone, rfl, fun s e => OTyIs.mkRecord ?_ s e _, k2.then hk⟩
      rcases hov with h | ⟨b, e1, hb, hov⟩
      · exact .inl h
      · have hs2 := k2.size
        refine .inr ⟨b, 0, e1, fun h => by omega, fun i x hx => ?_⟩
        obtain ⟨cs, _, h1, h2⟩ := hov i x hx
        exact ⟨cs, h1, AttrC.keeps.k (Keep.refl NoB _) (fun _ _ h => h.elim) (fun i _ h => by show i < _; omega) h2⟩

/-- A record or none: what a shape reads as. -/
theorem meantAttrs_of {w0 : World} {M : Nat → Prop} {l : List (Str × RTy × Bool)} {b : Nat} (h : RTyIs w0 M (.record l) (.iface 86 (.map (some b)))) (hok : ROk (.record l))
    (ih : ∀ t v, ROk t → RTyIs w0 M t v → ∀ w, Keep NoB w0 w → Calls Tryz.prog 22 #[v] w (MeantTy w t)) : ∀ w, Keep NoB w0 w → Calls Tryz.prog 21 #[.map (some b)] w (MeantRec w l) := by
  intro w k
  cases hok with
  | record hL hz hall =>
    cases h with
    | record hm hM hn hl ha ht =>
      exact meantAttrs_c w0 l (some b) _ _ _ hm hn hl ha hL hz (fun k t o hk => ih t _ (hall k t o hk) (ht k t o hk)) w k
theorem meantAttrs_none (w : World) : Calls Tryz.prog 21 #[.map none] w (MeantRec w []) :=
  meantAttrs_c w [] none [] (fun _ => .nilIface) (fun _ => none) rfl (by simp) rfl (fun _ _ _ h => by simp at h) (by simp) (fun _ _ _ h => by simp at h) (fun _ _ _ h => by simp at h) w (Keep.refl _ _)
end Go.Proofs.YthhjehajdcgkhaaGreatDoor
