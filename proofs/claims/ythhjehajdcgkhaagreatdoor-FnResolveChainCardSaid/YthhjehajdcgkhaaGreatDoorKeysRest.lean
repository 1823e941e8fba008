/- The contracts on sorted keys at this dump. -/
import Derived.Shelf.SlIter.Nil
import Derived.Shelf.SortM.Plain
import Derived.Shelf.SortM.SortNone
import Derived.Ground.GgzProg
import Derived.Ground.SlgmProg
import Derived.Test.YthhjehajdcgkhaaGreatDoorProg
import Derived.Test.YthhjehajdcgkhaaGreatDoorKeysLay
namespace Go.Proofs
open Go.RowKit Go.Maps Go.Sort Go.Shelf
set_option maxRecDepth 100000


/-- slices.Sort's two contracts at this dump, at the fence that asks nothing. -/
theorem Tryz.sorts18 (m : Nat) : AnyZ.SortsIn Tryz.prog Tryz.sorted18_ren Fence.wide m :=
  ⟨fun blk off cap ss W hH hblk hsz => callsIn_wide.2 (AnyM.slices_Sort_string Tryz.sort41 blk off cap ss W hH hblk hsz),
   fun p cap W => callsIn_wide.2 (AnyM.slices_Sort_string_none Tryz.sort41 p cap W)⟩

/-- **maps.Keys[map[pub-claviger/pub/cedargo/types.EntityType]pub-claviger/pub/cedargo/x/exp/schema/resolved.Entity,pub-claviger/pub/cedargo/types.EntityType,pub-claviger/pub/cedargo/x/exp/schema/resolved.Entity], at whatever map, the nil one too:** a function value over ONE NEW BLOCK, which holds the map. -/
theorem Tryz.maps_Keys_19 (mb : Option Nat) (W : World) : CallsIn Fence.wide 5 Tryz.prog 19 #[.map mb] W fun e w' => e = .returned (.func (.func 42) #[] #[.pointer (some ⟨W.heap.size, 0, none⟩)]) ∧ w' = W.alloc (.cells #[.map mb] 82) :=
  AnyZ.keys_in Tryz.keys19 Fence.wide 5 trivial rfl mb W

set_option maxHeartbeats 1000000 in
/-- **slices.Sorted[pub-claviger/pub/cedargo/types.EntityType] AT WHAT maps.Keys[map[pub-claviger/pub/cedargo/types.EntityType]pub-claviger/pub/cedargo/x/exp/schema/resolved.Entity,pub-claviger/pub/cedargo/types.EntityType,pub-claviger/pub/cedargo/x/exp/schema/resolved.Entity] HANDED BACK FOR A MAP THAT IS NOT nil** ('w': the world AHEAD of maps.Keys' call): A NEW SLICE THAT HOLDS THE MAP's KEYS, SORTED; nil just where it has none; nothing that lay before has turned. -/
theorem Tryz.slices_Sorted_keys_18_19 {H : Type} (b nn : Nat) (D0 : DataW H) (R : Value → Option (DataW H × List MemPlace)) (w : World) (hown : w.ownsMap Tryz.prog 78 R b nn D0) (hmax : Maps.size D0 ≤ maxLen) (hbytes : Maps.size D0 * 16 ≤ 140737488355328) :
    CallsIn Fence.wide 5 Tryz.prog 18 #[.func (.func 42) #[] #[.pointer (some ⟨w.heap.size, 0, none⟩)]] (w.alloc (.cells #[.map (some b)] 82)) fun e w' => ∃ (v : Value) (ss : List (List UInt8)), e = .returned v ∧ ss.Perm (strKeys D0) ∧
      w'.ownsRow (w.alloc (.cells #[.map (some b)] 82)).heap.size 78 1 v ss.length ((ss.mergeSort (fun x y => decide (x ≤ y))).map encStr) ∧ (v = .slice none 0 0 ↔ ss = []) ∧ Below (w.alloc (.cells #[.map (some b)] 82)).heap.size (w.alloc (.cells #[.map (some b)] 82)) w' := by
  have hbl := hown.lt
  have hseq : SeqGives Fence.wide 2 Tryz.prog 42 #[.pointer (some ⟨w.heap.size, 0, none⟩)] encStr (fun ss => ss.Perm (strKeys D0)) (Maps.size D0) (w.alloc (.cells #[.map (some b)] 82)) :=
    AnyZ.keys_gives (ρ := Tryz.keys19_ren) { Tryz.keys19 with } Fence.wide _ trivial rfl (by omega) w.heap.size b nn D0 _ (by simp) (by simp) (by
      obtain ⟨es, clock, hb, Ft, hs, hD⟩ := hown
      exact ⟨es, clock, (Below.heap_alloc _ _ b hbl).trans hb, Ft, hs, hD⟩)
  exact AnyZ.sorted_in Tryz.sorted18 Fence.wide 5 trivial trivial trivial trivial rfl (by omega) (Tryz.sorts18 _) (enters_of Tryz.func41 (by kernel_rfl) rfl) 42 #[.pointer (some ⟨w.heap.size, 0, none⟩)] trivial (enters_of Tryz.func42 (by kernel_rfl) rfl) _ _ hmax hbytes _ hseq

set_option maxHeartbeats 1000000 in
/-- **.. AND FOR THE nil MAP: nil.** -/
theorem Tryz.slices_Sorted_keys_nil_18_19 (w : World) :
    CallsIn Fence.wide 5 Tryz.prog 18 #[.func (.func 42) #[] #[.pointer (some ⟨w.heap.size, 0, none⟩)]] (w.alloc (.cells #[.map none] 82)) fun e w' => ∃ (v : Value) (ss : List (List UInt8)), e = .returned v ∧ ss = [] ∧
      w'.ownsRow (w.alloc (.cells #[.map none] 82)).heap.size 78 1 v ss.length ((ss.mergeSort (fun x y => decide (x ≤ y))).map encStr) ∧ (v = .slice none 0 0 ↔ ss = []) ∧ Below (w.alloc (.cells #[.map none] 82)).heap.size (w.alloc (.cells #[.map none] 82)) w' := by
  have hseq : SeqGives Fence.wide 2 Tryz.prog 42 #[.pointer (some ⟨w.heap.size, 0, none⟩)] encStr (fun ss : List (List UInt8) => ss = []) 0 (w.alloc (.cells #[.map none] 82)) :=
    AnyZ.keys_gives_nil (ρ := Tryz.keys19_ren) { Tryz.keys19 with } Fence.wide _ trivial rfl w.heap.size _ (by simp) (by simp)
  exact AnyZ.sorted_in Tryz.sorted18 Fence.wide 5 trivial trivial trivial trivial rfl (by omega) (Tryz.sorts18 _) (enters_of Tryz.func41 (by kernel_rfl) rfl) 42 #[.pointer (some ⟨w.heap.size, 0, none⟩)] trivial (enters_of Tryz.func42 (by kernel_rfl) rfl) _ 0 (Nat.zero_le _) (by omega) _ hseq


/-- **maps.Keys[map[pub-claviger/pub/cedargo/types.EntityType]pub-claviger/pub/cedargo/x/exp/schema/resolved.Enum,pub-claviger/pub/cedargo/types.EntityType,pub-claviger/pub/cedargo/x/exp/schema/resolved.Enum], at whatever map, the nil one too:** a function value over ONE NEW BLOCK, which holds the map. -/
theorem Tryz.maps_Keys_23 (mb : Option Nat) (W : World) : CallsIn Fence.wide 5 Tryz.prog 23 #[.map mb] W fun e w' => e = .returned (.func (.func 45) #[] #[.pointer (some ⟨W.heap.size, 0, none⟩)]) ∧ w' = W.alloc (.cells #[.map mb] 92) :=
  AnyZ.keys_in Tryz.keys23 Fence.wide 5 trivial rfl mb W

set_option maxHeartbeats 1000000 in
/-- **slices.Sorted[pub-claviger/pub/cedargo/types.EntityType] AT WHAT maps.Keys[map[pub-claviger/pub/cedargo/types.EntityType]pub-claviger/pub/cedargo/x/exp/schema/resolved.Enum,pub-claviger/pub/cedargo/types.EntityType,pub-claviger/pub/cedargo/x/exp/schema/resolved.Enum] HANDED BACK FOR A MAP THAT IS NOT nil** ('w': the world AHEAD of maps.Keys' call): A NEW SLICE THAT HOLDS THE MAP's KEYS, SORTED; nil just where it has none; nothing that lay before has turned. -/
theorem Tryz.slices_Sorted_keys_18_23 {H : Type} (b nn : Nat) (D0 : DataW H) (R : Value → Option (DataW H × List MemPlace)) (w : World) (hown : w.ownsMap Tryz.prog 78 R b nn D0) (hmax : Maps.size D0 ≤ maxLen) (hbytes : Maps.size D0 * 16 ≤ 140737488355328) :
    CallsIn Fence.wide 5 Tryz.prog 18 #[.func (.func 45) #[] #[.pointer (some ⟨w.heap.size, 0, none⟩)]] (w.alloc (.cells #[.map (some b)] 92)) fun e w' => ∃ (v : Value) (ss : List (List UInt8)), e = .returned v ∧ ss.Perm (strKeys D0) ∧
      w'.ownsRow (w.alloc (.cells #[.map (some b)] 92)).heap.size 78 1 v ss.length ((ss.mergeSort (fun x y => decide (x ≤ y))).map encStr) ∧ (v = .slice none 0 0 ↔ ss = []) ∧ Below (w.alloc (.cells #[.map (some b)] 92)).heap.size (w.alloc (.cells #[.map (some b)] 92)) w' := by
  have hbl := hown.lt
  have hseq : SeqGives Fence.wide 2 Tryz.prog 45 #[.pointer (some ⟨w.heap.size, 0, none⟩)] encStr (fun ss => ss.Perm (strKeys D0)) (Maps.size D0) (w.alloc (.cells #[.map (some b)] 92)) :=
    AnyZ.keys_gives (ρ := Tryz.keys23_ren) { Tryz.keys23 with } Fence.wide _ trivial rfl (by omega) w.heap.size b nn D0 _ (by simp) (by simp) (by
      obtain ⟨es, clock, hb, Ft, hs, hD⟩ := hown
      exact ⟨es, clock, (Below.heap_alloc _ _ b hbl).trans hb, Ft, hs, hD⟩)
  exact AnyZ.sorted_in Tryz.sorted18 Fence.wide 5 trivial trivial trivial trivial rfl (by omega) (Tryz.sorts18 _) (enters_of Tryz.func41 (by kernel_rfl) rfl) 45 #[.pointer (some ⟨w.heap.size, 0, none⟩)] trivial (enters_of Tryz.func45 (by kernel_rfl) rfl) _ _ hmax hbytes _ hseq

set_option maxHeartbeats 1000000 in
/-- **.. AND FOR THE nil MAP: nil.** -/
theorem Tryz.slices_Sorted_keys_nil_18_23 (w : World) :
    CallsIn Fence.wide 5 Tryz.prog 18 #[.func (.func 45) #[] #[.pointer (some ⟨w.heap.size, 0, none⟩)]] (w.alloc (.cells #[.map none] 92)) fun e w' => ∃ (v : Value) (ss : List (List UInt8)), e = .returned v ∧ ss = [] ∧
      w'.ownsRow (w.alloc (.cells #[.map none] 92)).heap.size 78 1 v ss.length ((ss.mergeSort (fun x y => decide (x ≤ y))).map encStr) ∧ (v = .slice none 0 0 ↔ ss = []) ∧ Below (w.alloc (.cells #[.map none] 92)).heap.size (w.alloc (.cells #[.map none] 92)) w' := by
  have hseq : SeqGives Fence.wide 2 Tryz.prog 45 #[.pointer (some ⟨w.heap.size, 0, none⟩)] encStr (fun ss : List (List UInt8) => ss = []) 0 (w.alloc (.cells #[.map none] 92)) :=
    AnyZ.keys_gives_nil (ρ := Tryz.keys23_ren) { Tryz.keys23 with } Fence.wide _ trivial rfl w.heap.size _ (by simp) (by simp)
  exact AnyZ.sorted_in Tryz.sorted18 Fence.wide 5 trivial trivial trivial trivial rfl (by omega) (Tryz.sorts18 _) (enters_of Tryz.func41 (by kernel_rfl) rfl) 45 #[.pointer (some ⟨w.heap.size, 0, none⟩)] trivial (enters_of Tryz.func45 (by kernel_rfl) rfl) _ 0 (Nat.zero_le _) (by omega) _ hseq



/-- slices.Sort's two contracts at this dump, at the fence that asks nothing. -/
theorem Tryz.sorts43 (m : Nat) : AnyZ.SortsIn Tryz.prog Tryz.sorted43_ren Fence.wide m :=
  ⟨fun blk off cap ss W hH hblk hsz => callsIn_wide.2 (AnyM.slices_Sort_string Tryz.sort67 blk off cap ss W hH hblk hsz),
   fun p cap W => callsIn_wide.2 (AnyM.slices_Sort_string_none Tryz.sort67 p cap W)⟩

/-- **maps.Keys[pub-claviger/pub/cedargo/x/exp/schema/resolved.RecordType,pub-claviger/pub/cedargo/types.String,pub-claviger/pub/cedargo/x/exp/schema/resolved.Attribute], at whatever map, the nil one too:** a function value over ONE NEW BLOCK, which holds the map. -/
theorem Tryz.maps_Keys_44 (mb : Option Nat) (W : World) : CallsIn Fence.wide 5 Tryz.prog 44 #[.map mb] W fun e w' => e = .returned (.func (.func 68) #[] #[.pointer (some ⟨W.heap.size, 0, none⟩)]) ∧ w' = W.alloc (.cells #[.map mb] 86) :=
  AnyZ.keys_in Tryz.keys44 Fence.wide 5 trivial rfl mb W

set_option maxHeartbeats 1000000 in
/-- **slices.Sorted[pub-claviger/pub/cedargo/types.String] AT WHAT maps.Keys[pub-claviger/pub/cedargo/x/exp/schema/resolved.RecordType,pub-claviger/pub/cedargo/types.String,pub-claviger/pub/cedargo/x/exp/schema/resolved.Attribute] HANDED BACK FOR A MAP THAT IS NOT nil** ('w': the world AHEAD of maps.Keys' call): A NEW SLICE THAT HOLDS THE MAP's KEYS, SORTED; nil just where it has none; nothing that lay before has turned. -/
theorem Tryz.slices_Sorted_keys_43_44 {H : Type} (b nn : Nat) (D0 : DataW H) (R : Value → Option (DataW H × List MemPlace)) (w : World) (hown : w.ownsMap Tryz.prog 103 R b nn D0) (hmax : Maps.size D0 ≤ maxLen) (hbytes : Maps.size D0 * 16 ≤ 140737488355328) :
    CallsIn Fence.wide 5 Tryz.prog 43 #[.func (.func 68) #[] #[.pointer (some ⟨w.heap.size, 0, none⟩)]] (w.alloc (.cells #[.map (some b)] 86)) fun e w' => ∃ (v : Value) (ss : List (List UInt8)), e = .returned v ∧ ss.Perm (strKeys D0) ∧
      w'.ownsRow (w.alloc (.cells #[.map (some b)] 86)).heap.size 103 1 v ss.length ((ss.mergeSort (fun x y => decide (x ≤ y))).map encStr) ∧ (v = .slice none 0 0 ↔ ss = []) ∧ Below (w.alloc (.cells #[.map (some b)] 86)).heap.size (w.alloc (.cells #[.map (some b)] 86)) w' := by
  have hbl := hown.lt
  have hseq : SeqGives Fence.wide 2 Tryz.prog 68 #[.pointer (some ⟨w.heap.size, 0, none⟩)] encStr (fun ss => ss.Perm (strKeys D0)) (Maps.size D0) (w.alloc (.cells #[.map (some b)] 86)) :=
    AnyZ.keys_gives (ρ := Tryz.keys44_ren) { Tryz.keys44 with } Fence.wide _ trivial rfl (by omega) w.heap.size b nn D0 _ (by simp) (by simp) (by
      obtain ⟨es, clock, hb, Ft, hs, hD⟩ := hown
      exact ⟨es, clock, (Below.heap_alloc _ _ b hbl).trans hb, Ft, hs, hD⟩)
  exact AnyZ.sorted_in Tryz.sorted43 Fence.wide 5 trivial trivial trivial trivial rfl (by omega) (Tryz.sorts43 _) (enters_of Tryz.func67 (by kernel_rfl) rfl) 68 #[.pointer (some ⟨w.heap.size, 0, none⟩)] trivial (enters_of Tryz.func68 (by kernel_rfl) rfl) _ _ hmax hbytes _ hseq

set_option maxHeartbeats 1000000 in
/-- **.. AND FOR THE nil MAP: nil.** -/
theorem Tryz.slices_Sorted_keys_nil_43_44 (w : World) :
    CallsIn Fence.wide 5 Tryz.prog 43 #[.func (.func 68) #[] #[.pointer (some ⟨w.heap.size, 0, none⟩)]] (w.alloc (.cells #[.map none] 86)) fun e w' => ∃ (v : Value) (ss : List (List UInt8)), e = .returned v ∧ ss = [] ∧
      w'.ownsRow (w.alloc (.cells #[.map none] 86)).heap.size 103 1 v ss.length ((ss.mergeSort (fun x y => decide (x ≤ y))).map encStr) ∧ (v = .slice none 0 0 ↔ ss = []) ∧ Below (w.alloc (.cells #[.map none] 86)).heap.size (w.alloc (.cells #[.map none] 86)) w' := by
  have hseq : SeqGives Fence.wide 2 Tryz.prog 68 #[.pointer (some ⟨w.heap.size, 0, none⟩)] encStr (fun ss : List (List UInt8) => ss = []) 0 (w.alloc (.cells #[.map none] 86)) :=
    AnyZ.keys_gives_nil (ρ := Tryz.keys44_ren) { Tryz.keys44 with } Fence.wide _ trivial rfl w.heap.size _ (by simp) (by simp)
  exact AnyZ.sorted_in Tryz.sorted43 Fence.wide 5 trivial trivial trivial trivial rfl (by omega) (Tryz.sorts43 _) (enters_of Tryz.func67 (by kernel_rfl) rfl) 68 #[.pointer (some ⟨w.heap.size, 0, none⟩)] trivial (enters_of Tryz.func68 (by kernel_rfl) rfl) _ 0 (Nat.zero_le _) (by omega) _ hseq


end Go.Proofs
