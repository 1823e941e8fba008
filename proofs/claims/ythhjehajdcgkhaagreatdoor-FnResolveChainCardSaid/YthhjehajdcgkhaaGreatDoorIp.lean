/- The walks of the functions that turn given declarations of entity types into those of the syntax tree. -/
import Derived.Test.YthhjehajdcgkhaaGreatDoorIn
namespace Go.Proofs.YthhjehajdcgkhaaGreatDoor
open Go.RowKit

theorem infoEntRef : (Tryz.prog.info? 235).map (fun i => (i.zero, i.size, i.bytes)) = some (some (.string ⟨#[]⟩), 1, 16) := by kernel_rfl

set_option maxRecDepth 100000 in
set_option maxHeartbeats 4000000 in
theorem schemaRefs_c (w : World) (M : Nat → Prop) (l : List Str) (ov : Option Addr) (c : Nat) (hl : l.length ≤ 1000000) (h : StrsAt w M l (.slice ov l.length c)) :
    Calls Tryz.prog 73 #[.slice ov l.length c] w fun e w' => ∃ o n c', e = .returned (.slice o n c') ∧ StrsAt w' (· < w.heap.size) l (.slice o n c') ∧ Keep NoB w w' := by
  obtain ⟨iU, hiU, hzU, hsU, hbU⟩ := info_parts infoEntRef
  have HU := Lib.hid (And.intro hiU (And.intro hzU (And.intro hsU hbU)))
  obtain ⟨n, hne⟩ : ∃ n, n = l.length := ⟨_, rfl⟩
  rw [← hne] at h hl ⊢
  have HA := Lib.hid (And.intro hne h)
  clear hne h hiU hzU hsU hbU
  go_enter Tryz.func73, Tryz.ntmps73
  go_wp2_with fail
  go_loopg [3, 8] n (fun k sl i wr => ∃ j : Nat, j + k = n ∧ i = .int .i64 j ∧ Keep NoB w wr ∧ wr.ownsRow w.heap.size 235 1 sl j ((l.take j).map Value.string))
  case atStart => exact ⟨0, by omega, rfl, Keep.refl _ _, rfl, .inl ⟨rfl, rfl⟩⟩
  case round =>
    obtain ⟨j, hj, rfl, hk, hown⟩ := hrel
    have HR := Lib.hid (And.intro hk hown)
    clear hk hown
    by_cases hlt : j < n
    · obtain ⟨hne, h⟩ := HA.out
      obtain ⟨hk, hown⟩ := HR.out
      obtain ⟨ov', c2, he, h⟩ := h
      simp only [Value.slice.injEq] at he
      obtain ⟨rfl, hx, rfl⟩ := he
      clear hx
      rcases h with h0 | ⟨bv, offv, rfl, hMv, hcell⟩
      · omega
      have hcv := (hcell j (by omega)).2.keep hk (NoB.not _) 0 _ rfl
      simp only [Nat.mul_one, Nat.add_zero] at hcv
      obtain ⟨vj, hvj⟩ : ∃ vj, vj = l.getD j ⟨#[]⟩ := ⟨_, rfl⟩
      rw [← hvj] at hcv
      have HV := Lib.hid (And.intro hvj hne)
      clear hne hcell hk hown hvj hMv
      go_wp2_with fail
      refine (astEntityType_c _ _).mono ?_
      rintro e w3 ⟨rfl, rfl⟩
      clear hcv
      go_wp2_with (at_builtin; refine wpList_append_own _ rfl _ _ 186 rfl w.heap.size 235 iU _ 1 16 Tryz.underlying186 HU.out.1 HU.out.2.1 HU.out.2.2.1 HU.out.2.2.2 rfl (by decide) _ _ _ rfl (HR.out.2.alloc _) ⟨w3.heap.size, 0, none⟩ 1 1 [.string vj] rfl rfl ?c1 ?c2 ?c3 ?c4 ?c5 ?_)
      case c1 =>
        intro q u hq
        rcases q with _ | q
        · cases hq; exact cell_cells (MapKept.heap_alloc w3 _).1 0
        · cases hq
      case c2 => intro u hu; simp only [List.mem_singleton] at hu; subst hu; rfl
      case c3 => unfold maxLen; omega
      case c4 => omega
      case c5 =>
        have h1 := HR.out.1.size
        rw [World.size_alloc]; omega
      intro v' w4 hown4 hgrow _
      obtain ⟨g, cap, rfl⟩ := owns_some hown4
      have kg := grown_keep HR.out.2 hgrow
      have HG := Lib.hid (And.intro hown4 kg)
      clear hown4 hgrow kg
      go_wp2_with fail
      go_roundg (gk - 1)
      case measure => omega
      case rel =>
        obtain ⟨hown4, kg⟩ := HG.out
        refine ⟨j + 1, by omega, by go_num, (HR.out.1.trans ((Keep.alloc w3 (.cells #[.string vj] 235) NoB).first kg) (fun _ _ h => h) (fun i hi h => by omega)), ?_⟩
        have hjl : j < l.length := by have := HV.out.2; omega
        have hv : vj = l[j] := by rw [HV.out.1, List.getD_eq_getElem?_getD, List.getElem?_eq_getElem hjl]; rfl
        rw [List.take_succ_eq_append_getElem hjl, List.map_append, ← hv, List.map_take]
        exact hown4
    · have hjn : j = n := by omega
      subst hjn
      obtain ⟨hk, hown⟩ := HR.out
      obtain ⟨o, nn, cc, hsl⟩ : ∃ o nn cc, _ = Value.slice o nn cc := by
        rcases hown.2 with ⟨h, _⟩ | ⟨g, cap, cur, h, _⟩ <;> exact ⟨_, _, _, h⟩
      subst hsl
      clear hk hown
      go_wp2_with fail
      go_ret
      obtain ⟨hk, hown⟩ := HR.out
      rw [HA.out.1, List.take_length] at hown
      exact ⟨o, nn, cc, rfl, (ownsRow_strs hown (fun i h => h)).2, hk⟩

theorem schemaRecord_of {w0 : World} {M : Nat → Prop} {l : List (Str × ATy × Bool)} {s : Str} {e a : Sl} (h : ITyIs w0 M (.record l) (tyV 6 s e a)) : ∀ w, Keep NoB w0 w → Calls Tryz.prog 74 #[slV a] w (ARecOut w l) := by
  intro w k
  generalize hv : tyV 6 s e a = v at h
  cases h with
  | record s e ao c kf sf ef af hn hL hc ht =>
    simp only [Value.agg.injEq, Array.mk.injEq, List.cons.injEq, Value.slice.injEq, and_true, true_and] at hv
    obtain ⟨_, _, h3, h4, h5⟩ := hv
    show Calls _ _ #[.slice a.1 a.2.1 a.2.2] _ _
    rw [h3, h4, h5]
    exact schemaRecord_c w0 M _ ao c kf sf ef af hn hL hc (fun i k t q hi => schemaType_c (ht i k t q hi)) w k

/-- A declaration of an entity type as it is given. -/
structure IEnt where
  parents : List Str
  attrs : List (Str × ATy × Bool)
  tags : Option ATy
def IEnt.ast (e : IEnt) : AEnt := ⟨e.parents, if e.attrs = [] then none else some e.attrs, e.tags⟩
structure IEntIs (w : World) (M : Nat → Prop) (nm : Str) (e : IEnt) (ps ats : Sl) (k : Int) (s : Str) (el al : Sl) : Prop where
  plen : ps.2.1 = e.parents.length
  pL : e.parents.length ≤ 1000000
  pz : ∀ p ∈ e.parents, p.size ≤ 1000000
  par : StrsAt w M e.parents (slV ps)
  att : ITyIs w M (.record e.attrs) (tyV 6 ⟨#[]⟩ (none, 0, 0) ats)
  tag : ∀ t, e.tags = some t → ITyIs w M t (tyV k s el al)
abbrev entV (nm : Str) (e : IEnt) (ps ats : Sl) (k : Int) (s : Str) (el al : Sl) : Value :=
  .agg #[.string nm, .slice ps.1 ps.2.1 ps.2.2, .slice ats.1 ats.2.1 ats.2.2, .bool e.tags.isSome, .int .i64 k, .string s, .slice el.1 el.2.1 el.2.2, .slice al.1 al.2.1 al.2.2]

theorem AShape_keep {w w' : World} {M M' M2 : Nat → Prop} (hk : Keep M2 w w') (h2 : ∀ i, i < w.heap.size → M2 i → M i) (h3 : ∀ i, i < w.heap.size → M' i → M i) {t : Option (List (Str × ATy × Bool))} {v : Value} (h : AShape w M t v) : AShape w' M' t v := by
  cases t with
  | none => exact h
  | some l => obtain ⟨b, e, h⟩ := h; exact ⟨b, e, h.keep hk h2 h3⟩
def EntOut (w : World) (e : IEnt) (en : Ending) (w' : World) : Prop := ∃ (a : Option Nat) (b : Sl) (c : Option Nat) (d : Value), en = .returned (.tuple #[.agg #[.map a, .slice b.1 b.2.1 b.2.2, .map c, d], .bool true]) ∧ d.oneCell' = true ∧ AEntIs w' (· < w.heap.size) e.ast (.agg #[.map a, .slice b.1 b.2.1 b.2.2, .map c, d]) ∧ Keep NoB w w'
set_option maxRecDepth 100000 in
set_option maxHeartbeats 8000000 in
theorem schemaEntity_c (w0 : World) (M : Nat → Prop) (nm : Str) (e : IEnt) (ps ats : Sl) (k : Int) (s : Str) (el al : Sl) (h : IEntIs w0 M nm e ps ats k s el al) (w : World) (k0 : Keep NoB w0 w) :
    Calls Tryz.prog 53 #[entV nm e ps ats k s el al] w (EntOut w e) := by
  obtain ⟨pn, hpn⟩ : ∃ pn, pn = ps.2.1 := ⟨_, rfl⟩
  have HA := Lib.hid (And.intro h k0)
  have k1 := (Keep.alloc w (.cells #[.string nm, .slice ps.1 ps.2.1 ps.2.2, .slice ats.1 ats.2.1 ats.2.2, .bool e.tags.isSome, .int .i64 k, .string s, .slice el.1 el.2.1 el.2.2, .slice al.1 al.2.1 al.2.2] 35) NoB).then (Keep.alloc _ (.cells #[.map none, .slice none 0 0, .map none, .nilIface] 192) NoB)
  have hb0 := (Keep.alloc (w.alloc (.cells #[.string nm, .slice ps.1 ps.2.1 ps.2.2, .slice ats.1 ats.2.1 ats.2.2, .bool e.tags.isSome, .int .i64 k, .string s, .slice el.1 el.2.1 el.2.2, .slice al.1 al.2.1 al.2.2] 35)) (.cells #[.map none, .slice none 0 0, .map none, .nilIface] 192) NoB).heap (MapKept.heap_alloc w (.cells #[.string nm, .slice ps.1 ps.2.1 ps.2.2, .slice ats.1 ats.2.1 ats.2.2, .bool e.tags.isSome, .int .i64 k, .string s, .slice el.1 el.2.1 el.2.2, .slice al.1 al.2.1 al.2.2] 35)).1 (NoB.not _)
  have hb1 := (MapKept.heap_alloc (w.alloc (.cells #[.string nm, .slice ps.1 ps.2.1 ps.2.2, .slice ats.1 ats.2.1 ats.2.2, .bool e.tags.isSome, .int .i64 k, .string s, .slice el.1 el.2.1 el.2.2, .slice al.1 al.2.1 al.2.2] 35)) (.cells #[.map none, .slice none 0 0, .map none, .nilIface] 192)).1
  rw [World.size_alloc] at hb1
  have HB := Lib.hid (And.intro k1 (And.intro hb0 hb1))
  clear h k0 k1 hb0 hb1 hpn
  go_enter Tryz.func53, Tryz.ntmps53
  go_wp2_with fail
  obtain ⟨hI, k0⟩ := HA.out
  obtain ⟨k1, hb0, hb1⟩ := HB.out
  have hrefs := schemaRefs_c ((w.alloc (.cells #[.string nm, .slice ps.1 ps.2.1 ps.2.2, .slice ats.1 ats.2.1 ats.2.2, .bool e.tags.isSome, .int .i64 k, .string s, .slice el.1 el.2.1 el.2.2, .slice al.1 al.2.1 al.2.2] 35)).alloc (.cells #[.map none, .slice none 0 0, .map none, .nilIface] 192)) M e.parents ps.1 ps.2.2 hI.pL (by
    have := StrsAt.keep.k (M' := M) (k0.then k1) (fun _ _ h => h.elim) (fun _ _ h => h) hI.par
    rw [← hI.plen]; exact this)
  rw [← hI.plen] at hrefs
  have HC := Lib.hid hrefs
  clear hrefs hI k0 k1 hb0 hb1
  refine HC.out.mono ?_
  rintro en w1 ⟨o, n1, c1, rfl, hpar, k2⟩
  obtain ⟨kB, hb0, hb1⟩ := HB.out
  have k3 := Keep.alloc w1 (.cells #[.map none, .slice o n1 c1, .map none, .nilIface] 192) NoB
  have hb2 := (MapKept.heap_alloc w1 (.cells #[.map none, .slice o n1 c1, .map none, .nilIface] 192)).1
  have hb0' := (k2.then k3).heap hb0 (NoB.not _)
  have f2 : (w1.alloc (.cells #[.map none, .slice o n1 c1, .map none, .nilIface] 192)).cell? ⟨w.heap.size, 2, none⟩ = some (.slice ats.1 ats.2.1 ats.2.2) := by rw [cell_cells hb0']; rfl
  have HD := Lib.hid (And.intro hpar (And.intro k2 (And.intro k3 (And.intro hb2 hb0'))))
  have HE := Lib.hid (schemaRecord_of HA.out.1.att _ (((HA.out.2.then kB).then k2).then k3))
  clear hpar k2 k3 hb2 hb0' kB hb0 hb1
  go_wp2_with fail
  refine HE.out.mono ?_
  rintro en w2 ⟨b, rfl, hrec, k4⟩
  clear f2
  obtain ⟨lv, hm, hlen⟩ : ∃ lv, KMap Value.string w2 b lv ∧ lv.length = e.attrs.length := by
    cases hrec with
    | record hm hM hn hl ha ht => exact ⟨_, hm, hl⟩
  have hlenr := KMapO.len (m := some b) hm Tryz.underlying188 3
  rw [hlen] at hlenr
  have hb2' := k4.heap HD.out.2.2.2.1 (NoB.not _)
  have hfz2 := frozen_cells hb2' 2
  have f2 : w2.cell? ⟨w1.heap.size, 2, none⟩ = some (.map none) := by rw [cell_cells hb2']; rfl
  have HF := Lib.hid (And.intro hrec (And.intro k4 hb2'))
  clear hrec k4 hm hlen hb2'
  go_upto_if 24 with fail
  go_cut [] (fun wx => ∃ mb, Keep NoB w wx ∧ w1.heap.size < wx.heap.size ∧ wx.heap[w.heap.size]? = some (.cells #[.string nm, .slice ps.1 ps.2.1 ps.2.2, .slice ats.1 ats.2.1 ats.2.2, .bool e.tags.isSome, .int .i64 k, .string s, .slice el.1 el.2.1 el.2.2, .slice al.1 al.2.1 al.2.2] 35 (0, 0)) ∧ wx.heap[w.heap.size + 1]? = some (.cells #[.map none, .slice none 0 0, .map none, .nilIface] 192 (0, 0)) ∧ wx.heap[w1.heap.size]? = some (.cells #[.map none, .slice o n1 c1, .map mb, .nilIface] 192 (0, 0)) ∧ AShape wx (fun i => i < w1.heap.size + 1) e.ast.shape (.map mb) ∧ StrsAt wx (fun i => i < w.heap.size + 2 ∨ i = w1.heap.size) e.parents (.slice o n1 c1))
  case first =>
    have hlt1 : w.heap.size + 2 ≤ w1.heap.size := by have := HD.out.2.1.size; simpa using this
    by_cases hat : e.attrs = []
    · have HN := Lib.hid hat
      rw [hat]
      clear hat
      go_wp2_with fail
      go_meet
      case rel =>
        obtain ⟨hpar, k2, k3, hb2, hb0⟩ := HD.out
        obtain ⟨hrec, k4, hb2'⟩ := HF.out
        obtain ⟨kB, _, hb1⟩ := HB.out
        refine ⟨none, ((kB.then k2).then k3).then k4, ?_, k4.heap hb0 (NoB.not _), ((k2.then k3).then k4).heap hb1 (NoB.not _), hb2', ?_, ?_⟩
        · have := k4.size; simp at this; omega
        · unfold IEnt.ast; rw [HN.out]; rfl
        · exact StrsAt.keep.k (k3.then k4) (fun _ _ h => h.elim) (fun i hi h => by show i < _; rcases h with h | h <;> simp <;> omega) hpar
    · have hpos : 0 < e.attrs.length := List.length_pos_iff.2 hat
      have HN := Lib.hid hat
      clear hat
      go_wp2_with fail
      go_meet
      case rel =>
        obtain ⟨hpar, k2, k3, hb2, hb0⟩ := HD.out
        obtain ⟨hrec, k4, hb2'⟩ := HF.out
        obtain ⟨kB, _, hb1⟩ := HB.out
        have ka := Keep.setCell (M := (· = w1.heap.size)) w2 ⟨w1.heap.size, 2, none⟩ (.map (some b)) (fun _ => rfl)
        have hlt2 : w1.heap.size < w2.heap.size := by have := k4.size; simp at this; omega
        refine ⟨some b, (((kB.then k2).then k3).then k4).trans ka (fun _ _ h => h) (fun i hi h => by omega), Nat.lt_of_lt_of_le hlt2 ka.size, ka.heap (k4.heap hb0 (NoB.not _)) (fun h => by omega), ka.heap (((k2.then k3).then k4).heap hb1 (NoB.not _)) (fun h => by omega), setCell_cells hb2' 2 _, ?_, ?_⟩
        · unfold IEnt.ast
          rw [if_neg HN.out]
          exact ⟨b, rfl, hrec.keep ka (fun i hi h => by show i < _; simp; omega) (fun i hi (h : i < w1.heap.size + 1) => by show i < _; simp; omega)⟩
        · have := StrsAt.keep.k (M' := fun i => i < w.heap.size + 2 ∨ i = w1.heap.size) (k3.then k4) (fun _ _ h => h.elim) (fun i hi h => by show i < _; rcases h with h | h <;> simp <;> omega) hpar
          exact StrsAt.keep.k ka (fun i hi h => .inr h) (fun i hi h => h) this
  case rest =>
    obtain ⟨mb, kx, hszx, hb0, hb1, hb2, hsh, hpar⟩ := hcut
    have f3 : wc.cell? ⟨w.heap.size, 3, none⟩ = some (.bool e.tags.isSome) := by rw [cell_cells hb0]; rfl
    have HG := Lib.hid (And.intro kx (And.intro hszx (And.intro hb0 (And.intro hb1 (And.intro hb2 (And.intro hsh hpar))))))
    clear kx hszx hb0 hb1 hb2 hsh hpar
    go_upto_if 28 with fail
    go_cut [7, 8] (fun s7 s8 wx => ∃ d, Keep NoB w wx ∧ d.oneCell' = true ∧ wx.heap[w.heap.size + 1]? = some (.cells #[.map none, .slice none 0 0, .map none, .nilIface] 192 (0, 0)) ∧ wx.heap[w1.heap.size]? = some (.cells #[.map none, .slice o n1 c1, .map mb, d] 192 (0, 0)) ∧ AShape wx (fun i => i < w.heap.size + 2) e.ast.shape (.map mb) ∧ ATags wx (fun i => i < w.heap.size + 2) e.tags d ∧ StrsAt wx (fun i => i < w.heap.size + 2) e.parents (.slice o n1 c1))
    case first =>
      have hlt1 : w.heap.size + 2 ≤ w1.heap.size := by have := HD.out.2.1.size; simpa using this
      cases htg : e.tags with
      | none =>
        have HT := Lib.hid htg
        rw [htg] at f3
        clear htg
        go_wp2_with fail
        go_meet
        case rel =>
          obtain ⟨kx, hszx, hb0, hb1, hb2, hsh, hpar⟩ := HG.out
          exact ⟨.nilIface, kx, rfl, hb1, hb2, AShape_keep (Keep.refl NoB _) (fun _ _ h => h.elim) (fun i hi (h : i < w.heap.size + 2) => by show i < _; omega) hsh, (by rw [HT.out]; rfl), StrsAt.keep.k (Keep.refl NoB _) (fun _ _ h => h.elim) (fun i hi h => .inl h) hpar⟩
      | some t =>
        have HT := Lib.hid htg
        obtain ⟨kx, hszx, hb0, hb1, hb2, hsh, hpar⟩ := HG.out
        have f4 : wc.cell? ⟨w.heap.size, 4, none⟩ = some (.int .i64 k) := by rw [cell_cells hb0]; rfl
        have f5 : wc.cell? ⟨w.heap.size, 5, none⟩ = some (.string s) := by rw [cell_cells hb0]; rfl
        have f6 : wc.cell? ⟨w.heap.size, 6, none⟩ = some (.slice el.1 el.2.1 el.2.2) := by rw [cell_cells hb0]; rfl
        have f7 : wc.cell? ⟨w.heap.size, 7, none⟩ = some (.slice al.1 al.2.1 al.2.2) := by rw [cell_cells hb0]; rfl
        have HC2 := Lib.hid (schemaType_c (HA.out.1.tag t htg) wc (HA.out.2.then kx))
        rw [htg] at f3
        clear htg kx hszx hb0 hb1 hb2 hsh hpar
        go_wp2_with fail
        refine HC2.out.mono ?_
        rintro en w5 ⟨T, x, rfl, hty, k5⟩
        clear f3 f4 f5 f6 f7
        obtain ⟨kx, hszx, hb0, hb1, hb2, hsh, hpar⟩ := HG.out
        have hb2' := k5.heap hb2 (NoB.not _)
        have hfz2 := frozen_cells hb2' 3
        have f2 : w5.cell? ⟨w1.heap.size, 3, none⟩ = some .nilIface := by rw [cell_cells hb2']; rfl
        have HQ := Lib.hid (And.intro hty (And.intro k5 hb2'))
        clear hty k5 hb2' kx hszx hb0 hb1 hb2 hsh hpar
        go_wp2_with fail
        go_meet
        case rel =>
          obtain ⟨kx, hszx, hb0, hb1, hb2, hsh, hpar⟩ := HG.out
          obtain ⟨hty, k5, hb2'⟩ := HQ.out
          have ka := Keep.setCell (M := (· = w1.heap.size)) w5 ⟨w1.heap.size, 3, none⟩ (.iface T x) (fun _ => rfl)
          have hpar2 := StrsAt.keep.k (M' := fun i => i < w.heap.size + 2 ∨ i = w1.heap.size) k5 (fun _ _ h => h.elim) (fun _ _ h => h) hpar
          refine ⟨.iface T x, (kx.then k5).trans ka (fun _ _ h => h) (fun i hi h => by omega), rfl, ka.heap (k5.heap hb1 (NoB.not _)) (fun h => by omega), setCell_cells hb2' 3 _, AShape_keep ka (fun i hi h => by show i < _; omega) (fun i hi (h : i < w.heap.size + 2) => by show i < _; omega) (AShape_keep (M' := fun i => i < w1.heap.size + 1) k5 (fun _ _ h => h.elim) (fun _ _ h => h) hsh), ?_, ?_⟩
          · rw [HT.out]
            exact ATyIs.keep ka (fun i hi h => by show i < _; omega) (fun i hi (h : i < w.heap.size + 2) => by show i < _; omega) hty
          · exact StrsAt.keep.k ka (fun i hi h => .inr h) (fun i hi h => .inl h) hpar2
    case rest =>
      obtain ⟨d, kx, hone, hb1, hb2, hsh, htg, hpar⟩ := hcut
      have g0 : wc.cell? ⟨w1.heap.size, 0, none⟩ = some (.map none) := by rw [cell_cells hb2]; rfl
      have g1 : wc.cell? ⟨w1.heap.size, 1, none⟩ = some (.slice o n1 c1) := by rw [cell_cells hb2]; rfl
      have g2 : wc.cell? ⟨w1.heap.size, 2, none⟩ = some (.map mb) := by rw [cell_cells hb2]; rfl
      have g3 : wc.cell? ⟨w1.heap.size, 3, none⟩ = some d := by rw [cell_cells hb2]; rfl
      have hst := fun w a m => run_store Tryz.prog w a d m hone
      have p0 : wc.cell? ⟨w.heap.size + 1, 0, none⟩ = some (.map none) := by rw [cell_cells hb1]; rfl
      have p1 : wc.cell? ⟨w.heap.size + 1, 1, none⟩ = some (.slice none 0 0) := by rw [cell_cells hb1]; rfl
      have p2 : wc.cell? ⟨w.heap.size + 1, 2, none⟩ = some (.map none) := by rw [cell_cells hb1]; rfl
      have p3 : wc.cell? ⟨w.heap.size + 1, 3, none⟩ = some .nilIface := by rw [cell_cells hb1]; rfl
      have z0 := frozen_cells hb1 0
      have z1 := frozen_cells hb1 1
      have z2 := frozen_cells hb1 2
      have z3 := frozen_cells hb1 3
      have HQ := Lib.hid (And.intro kx (And.intro hone (And.intro hb1 (And.intro hb2 (And.intro hsh (And.intro htg hpar))))))
      clear kx hone hb1 hb2 hsh htg hpar f3
      go_wp2_with fail
      obtain ⟨kx, hone, hb1, hb2, hsh, htg, hpar⟩ := HQ.out
      have hz := setCell_cells (setCell_cells (setCell_cells (setCell_cells hb1 0 (.map none)) 1 (.slice o n1 c1)) 2 (.map mb)) 3 d
      have ks := ((Keep.setCell (M := (· = w.heap.size + 1)) wc ⟨w.heap.size + 1, 0, none⟩ (.map none) (fun _ => rfl)).trans (Keep.setCell (M := (· = w.heap.size + 1)) _ ⟨w.heap.size + 1, 1, none⟩ (.slice o n1 c1) (fun _ => rfl)) (M'' := (· = w.heap.size + 1)) (fun _ _ h => h) (fun _ _ h => h)).trans ((Keep.setCell (M := (· = w.heap.size + 1)) _ ⟨w.heap.size + 1, 2, none⟩ (.map mb) (fun _ => rfl)).trans (Keep.setCell (M := (· = w.heap.size + 1)) _ ⟨w.heap.size + 1, 3, none⟩ d (fun _ => rfl)) (M'' := (· = w.heap.size + 1)) (fun _ _ h => h) (fun _ _ h => h)) (M'' := (· = w.heap.size + 1)) (fun _ _ h => h) (fun _ _ h => h)
      generalize ((((wc.setCell ⟨w.heap.size + 1, 0, none⟩ (.map none)).setCell ⟨w.heap.size + 1, 1, none⟩ (.slice o n1 c1)).setCell ⟨w.heap.size + 1, 2, none⟩ (.map mb)).setCell ⟨w.heap.size + 1, 3, none⟩ d) = wz at hz ks ⊢
      replace hz : wz.heap[w.heap.size + 1]? = some (.cells #[.map none, .slice o n1 c1, .map mb, d] 192 (0, 0)) := hz
      have q0 : wz.cell? ⟨w.heap.size + 1, 0, none⟩ = some (.map none) := by rw [cell_cells hz]; rfl
      have q1 : wz.cell? ⟨w.heap.size + 1, 1, none⟩ = some (.slice o n1 c1) := by rw [cell_cells hz]; rfl
      have q2 : wz.cell? ⟨w.heap.size + 1, 2, none⟩ = some (.map mb) := by rw [cell_cells hz]; rfl
      have q3 : wz.cell? ⟨w.heap.size + 1, 3, none⟩ = some d := by rw [cell_cells hz]; rfl
      have kwz : Keep NoB w wz := kx.trans ks (fun _ _ h => h) (fun i hi h => by omega)
      have hlt1 : w.heap.size + 2 ≤ w1.heap.size := by have := HD.out.2.1.size; simpa using this
      refine bodyPost_ret (v := .tuple #[.agg #[.map none, .slice o n1 c1, .map mb, d], .bool true]) ?_ rfl ⟨none, (o, n1, c1), mb, d, rfl, hone, ⟨none, _, _, _, rfl, ?_, HA.out.1.pz, ?_, ?_⟩, kwz⟩
      · simp [results, Tryz.results53, go_sem, q0, q1, q2, q3, Result.andThen]
      · exact StrsAt.keep.k ks (fun i hi h => by show i < _; omega) (fun i hi (h : i < w.heap.size) => by show i < _; omega) hpar
      · exact AShape_keep ks (fun i hi h => by show i < _; omega) (fun i hi (h : i < w.heap.size) => by show i < _; omega) hsh
      · show ATags _ _ e.tags d
        cases hq : e.tags with
        | none => rw [hq] at htg; exact htg
        | some t => rw [hq] at htg; exact ATyIs.keep ks (fun i hi h => by show i < _; omega) (fun i hi (h : i < w.heap.size) => by show i < _; omega) htg
end Go.Proofs.YthhjehajdcgkhaaGreatDoor
