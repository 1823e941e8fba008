/- The contracts on sorted keys at this dump. -/
import Derived.Shelf.SlIter.Nil
import Derived.Shelf.SortM.Plain
import Derived.Shelf.SortM.SortNone
import Derived.Ground.GgzProg
import Derived.Ground.SlgmProg
import Derived.Test.YtedgonoeeeiilaaGreatDoorProg
import Derived.Test.YtedgonoeeeiilaaGreatDoorKeysLay
namespace Go.Proofs
open Go.RowKit Go.Maps Go.Sort Go.Shelf
set_option maxRecDepth 100000


/-- slices.Sort's two contracts at this dump, at the fence that asks nothing. -/
theorem Tryz.sorts13 (m : Nat) : AnyZ.SortsIn Tryz.prog Tryz.sorted13_ren Fence.wide m :=
  ⟨fun blk off cap ss W hH hblk hsz => callsIn_wide.2 (AnyM.slices_Sort_string Tryz.sort36 blk off cap ss W hH hblk hsz),
   fun p cap W => callsIn_wide.2 (AnyM.slices_Sort_string_none Tryz.sort36 p cap W)⟩

/-- **maps.Keys[map[pub-claviger/pub/cedargo/types.EntityType]pub-claviger/pub/cedargo/x/exp/schema/resolved.Entity,pub-claviger/pub/cedargo/types.EntityType,pub-claviger/pub/cedargo/x/exp/schema/resolved.Entity], at whatever map, the nil one too:** a function value over ONE NEW BLOCK, which holds the map. -/
theorem Tryz.maps_Keys_14 (mb : Option Nat) (W : World) : CallsIn Fence.wide 5 Tryz.prog 14 #[.map mb] W fun e w' => e = .returned (.func (.func 37) #[] #[.pointer (some ⟨W.heap.size, 0, none⟩)]) ∧ w' = W.alloc (.cells #[.map mb] 71) :=
  AnyZ.keys_in Tryz.keys14 Fence.wide 5 trivial rfl mb W

set_option maxHeartbeats 1000000 in
/-- **slices.Sorted[pub-claviger/pub/cedargo/types.EntityType] AT WHAT maps.Keys[map[pub-claviger/pub/cedargo/types.EntityType]pub-claviger/pub/cedargo/x/exp/schema/resolved.Entity,pub-claviger/pub/cedargo/types.EntityType,pub-claviger/pub/cedargo/x/exp/schema/resolved.Entity] HANDED BACK FOR A MAP THAT IS NOT nil** ('w': the world AHEAD of maps.Keys' call): A NEW SLICE THAT HOLDS THE MAP's KEYS, SORTED; nil just where it has none; nothing that lay before has turned. -/
theorem Tryz.slices_Sorted_keys_13_14 {H : Type} (b nn : Nat) (D0 : DataW H) (R : Value → Option (DataW H × List MemPlace)) (w : World) (hown : w.ownsMap Tryz.prog 67 R b nn D0) (hmax : Maps.size D0 ≤ maxLen) (hbytes : Maps.size D0 * 16 ≤ 140737488355328) :
    CallsIn Fence.wide 5 Tryz.prog 13 #[.func (.func 37) #[] #[.pointer (some ⟨w.heap.size, 0, none⟩)]] (w.alloc (.cells #[.map (some b)] 71)) fun e w' => ∃ (v : Value) (ss : List (List UInt8)), e = .returned v ∧ ss.Perm (strKeys D0) ∧
      w'.ownsRow (w.alloc (.cells #[.map (some b)] 71)).heap.size 67 1 v ss.length ((ss.mergeSort (fun x y => decide (x ≤ y))).map encStr) ∧ (v = .slice none 0 0 ↔ ss = []) ∧ Below (w.alloc (.cells #[.map (some b)] 71)).heap.size (w.alloc (.cells #[.map (some b)] 71)) w' := by
  have hbl := hown.lt
  have hseq : SeqGives Fence.wide 2 Tryz.prog 37 #[.pointer (some ⟨w.heap.size, 0, none⟩)] encStr (fun ss => ss.Perm (strKeys D0)) (Maps.size D0) (w.alloc (.cells #[.map (some b)] 71)) :=
    AnyZ.keys_gives (ρ := Tryz.keys14_ren) { Tryz.keys14 with } Fence.wide _ trivial rfl (by omega) w.heap.size b nn D0 _ (by simp) (by simp) (by
      obtain ⟨es, clock, hb, Ft, hs, hD⟩ := hown
      exact ⟨es, clock, (Below.heap_alloc _ _ b hbl).trans hb, Ft, hs, hD⟩)
  exact AnyZ.sorted_in Tryz.sorted13 Fence.wide 5 trivial trivial trivial trivial rfl (by omega) (Tryz.sorts13 _) (enters_of Tryz.func36 (by kernel_rfl) rfl) 37 #[.pointer (some ⟨w.heap.size, 0, none⟩)] trivial (enters_of Tryz.func37 (by kernel_rfl) rfl) _ _ hmax hbytes _ hseq

set_option maxHeartbeats 1000000 in
/-- **.. AND FOR THE nil MAP: nil.** -/
theorem Tryz.slices_Sorted_keys_nil_13_14 (w : World) :
    CallsIn Fence.wide 5 Tryz.prog 13 #[.func (.func 37) #[] #[.pointer (some ⟨w.heap.size, 0, none⟩)]] (w.alloc (.cells #[.map none] 71)) fun e w' => ∃ (v : Value) (ss : List (List UInt8)), e = .returned v ∧ ss = [] ∧
      w'.ownsRow (w.alloc (.cells #[.map none] 71)).heap.size 67 1 v ss.length ((ss.mergeSort (fun x y => decide (x ≤ y))).map encStr) ∧ (v = .slice none 0 0 ↔ ss = []) ∧ Below (w.alloc (.cells #[.map none] 71)).heap.size (w.alloc (.cells #[.map none] 71)) w' := by
  have hseq : SeqGives Fence.wide 2 Tryz.prog 37 #[.pointer (some ⟨w.heap.size, 0, none⟩)] encStr (fun ss : List (List UInt8) => ss = []) 0 (w.alloc (.cells #[.map none] 71)) :=
    AnyZ.keys_gives_nil (ρ := Tryz.keys14_ren) { Tryz.keys14 with } Fence.wide _ trivial rfl w.heap.size _ (by simp) (by simp)
  exact AnyZ.sorted_in Tryz.sorted13 Fence.wide 5 trivial trivial trivial trivial rfl (by omega) (Tryz.sorts13 _) (enters_of Tryz.func36 (by kernel_rfl) rfl) 37 #[.pointer (some ⟨w.heap.size, 0, none⟩)] trivial (enters_of Tryz.func37 (by kernel_rfl) rfl) _ 0 (Nat.zero_le _) (by omega) _ hseq


/-- **maps.Keys[map[pub-claviger/pub/cedargo/types.EntityType]pub-claviger/pub/cedargo/x/exp/schema/resolved.Enum,pub-claviger/pub/cedargo/types.EntityType,pub-claviger/pub/cedargo/x/exp/schema/resolved.Enum], at whatever map, the nil one too:** a function value over ONE NEW BLOCK, which holds the map. -/
theorem Tryz.maps_Keys_18 (mb : Option Nat) (W : World) : CallsIn Fence.wide 5 Tryz.prog 18 #[.map mb] W fun e w' => e = .returned (.func (.func 40) #[] #[.pointer (some ⟨W.heap.size, 0, none⟩)]) ∧ w' = W.alloc (.cells #[.map mb] 81) :=
  AnyZ.keys_in Tryz.keys18 Fence.wide 5 trivial rfl mb W

set_option maxHeartbeats 1000000 in
/-- **slices.Sorted[pub-claviger/pub/cedargo/types.EntityType] AT WHAT maps.Keys[map[pub-claviger/pub/cedargo/types.EntityType]pub-claviger/pub/cedargo/x/exp/schema/resolved.Enum,pub-claviger/pub/cedargo/types.EntityType,pub-claviger/pub/cedargo/x/exp/schema/resolved.Enum] HANDED BACK FOR A MAP THAT IS NOT nil** ('w': the world AHEAD of maps.Keys' call): A NEW SLICE THAT HOLDS THE MAP's KEYS, SORTED; nil just where it has none; nothing that lay before has turned. -/
theorem Tryz.slices_Sorted_keys_13_18 {H : Type} (b nn : Nat) (D0 : DataW H) (R : Value → Option (DataW H × List MemPlace)) (w : World) (hown : w.ownsMap Tryz.prog 67 R b nn D0) (hmax : Maps.size D0 ≤ maxLen) (hbytes : Maps.size D0 * 16 ≤ 140737488355328) :
    CallsIn Fence.wide 5 Tryz.prog 13 #[.func (.func 40) #[] #[.pointer (some ⟨w.heap.size, 0, none⟩)]] (w.alloc (.cells #[.map (some b)] 81)) fun e w' => ∃ (v : Value) (ss : List (List UInt8)), e = .returned v ∧ ss.Perm (strKeys D0) ∧
      w'.ownsRow (w.alloc (.cells #[.map (some b)] 81)).heap.size 67 1 v ss.length ((ss.mergeSort (fun x y => decide (x ≤ y))).map encStr) ∧ (v = .slice none 0 0 ↔ ss = []) ∧ Below (w.alloc (.cells #[.map (some b)] 81)).heap.size (w.alloc (.cells #[.map (some b)] 81)) w' := by
  have hbl := hown.lt
  have hseq : SeqGives Fence.wide 2 Tryz.prog 40 #[.pointer (some ⟨w.heap.size, 0, none⟩)] encStr (fun ss => ss.Perm (strKeys D0)) (Maps.size D0) (w.alloc (.cells #[.map (some b)] 81)) :=
    AnyZ.keys_gives (ρ := Tryz.keys18_ren) { Tryz.keys18 with } Fence.wide _ trivial rfl (by omega) w.heap.size b nn D0 _ (by simp) (by simp) (by
      obtain ⟨es, clock, hb, Ft, hs, hD⟩ := hown
      exact ⟨es, clock, (Below.heap_alloc _ _ b hbl).trans hb, Ft, hs, hD⟩)
  exact AnyZ.sorted_in Tryz.sorted13 Fence.wide 5 trivial trivial trivial trivial rfl (by omega) (Tryz.sorts13 _) (enters_of Tryz.func36 (by kernel_rfl) rfl) 40 #[.pointer (some ⟨w.heap.size, 0, none⟩)] trivial (enters_of Tryz.func40 (by kernel_rfl) rfl) _ _ hmax hbytes _ hseq

set_option maxHeartbeats 1000000 in
/-- **.. AND FOR THE nil MAP: nil.** -/
theorem Tryz.slices_Sorted_keys_nil_13_18 (w : World) :
    CallsIn Fence.wide 5 Tryz.prog 13 #[.func (.func 40) #[] #[.pointer (some ⟨w.heap.size, 0, none⟩)]] (w.alloc (.cells #[.map none] 81)) fun e w' => ∃ (v : Value) (ss : List (List UInt8)), e = .returned v ∧ ss = [] ∧
      w'.ownsRow (w.alloc (.cells #[.map none] 81)).heap.size 67 1 v ss.length ((ss.mergeSort (fun x y => decide (x ≤ y))).map encStr) ∧ (v = .slice none 0 0 ↔ ss = []) ∧ Below (w.alloc (.cells #[.map none] 81)).heap.size (w.alloc (.cells #[.map none] 81)) w' := by
  have hseq : SeqGives Fence.wide 2 Tryz.prog 40 #[.pointer (some ⟨w.heap.size, 0, none⟩)] encStr (fun ss : List (List UInt8) => ss = []) 0 (w.alloc (.cells #[.map none] 81)) :=
    AnyZ.keys_gives_nil (ρ := Tryz.keys18_ren) { Tryz.keys18 with } Fence.wide _ trivial rfl w.heap.size _ (by simp) (by simp)
  exact AnyZ.sorted_in Tryz.sorted13 Fence.wide 5 trivial trivial trivial trivial rfl (by omega) (Tryz.sorts13 _) (enters_of Tryz.func36 (by kernel_rfl) rfl) 40 #[.pointer (some ⟨w.heap.size, 0, none⟩)] trivial (enters_of Tryz.func40 (by kernel_rfl) rfl) _ 0 (Nat.zero_le _) (by omega) _ hseq



/-- slices.Sort's two contracts at this dump, at the fence that asks nothing. -/
theorem Tryz.sorts38 (m : Nat) : AnyZ.SortsIn Tryz.prog Tryz.sorted38_ren Fence.wide m :=
  ⟨fun blk off cap ss W hH hblk hsz => callsIn_wide.2 (AnyM.slices_Sort_string Tryz.sort62 blk off cap ss W hH hblk hsz),
   fun p cap W => callsIn_wide.2 (AnyM.slices_Sort_string_none Tryz.sort62 p cap W)⟩

/-- **maps.Keys[pub-claviger/pub/cedargo/x/exp/schema/resolved.RecordType,pub-claviger/pub/cedargo/types.String,pub-claviger/pub/cedargo/x/exp/schema/resolved.Attribute], at whatever map, the nil one too:** a function value over ONE NEW BLOCK, which holds the map. -/
theorem Tryz.maps_Keys_39 (mb : Option Nat) (W : World) : CallsIn Fence.wide 5 Tryz.prog 39 #[.map mb] W fun e w' => e = .returned (.func (.func 63) #[] #[.pointer (some ⟨W.heap.size, 0, none⟩)]) ∧ w' = W.alloc (.cells #[.map mb] 75) :=
  AnyZ.keys_in Tryz.keys39 Fence.wide 5 trivial rfl mb W

set_option maxHeartbeats 1000000 in
/-- **slices.Sorted[pub-claviger/pub/cedargo/types.String] AT WHAT maps.Keys[pub-claviger/pub/cedargo/x/exp/schema/resolved.RecordType,pub-claviger/pub/cedargo/types.String,pub-claviger/pub/cedargo/x/exp/schema/resolved.Attribute] HANDED BACK FOR A MAP THAT IS NOT nil** ('w': the world AHEAD of maps.Keys' call): A NEW SLICE THAT HOLDS THE MAP's KEYS, SORTED; nil just where it has none; nothing that lay before has turned. -/
theorem Tryz.slices_Sorted_keys_38_39 {H : Type} (b nn : Nat) (D0 : DataW H) (R : Value → Option (DataW H × List MemPlace)) (w : World) (hown : w.ownsMap Tryz.prog 94 R b nn D0) (hmax : Maps.size D0 ≤ maxLen) (hbytes : Maps.size D0 * 16 ≤ 140737488355328) :
    CallsIn Fence.wide 5 Tryz.prog 38 #[.func (.func 63) #[] #[.pointer (some ⟨w.heap.size, 0, none⟩)]] (w.alloc (.cells #[.map (some b)] 75)) fun e w' => ∃ (v : Value) (ss : List (List UInt8)), e = .returned v ∧ ss.Perm (strKeys D0) ∧
      w'.ownsRow (w.alloc (.cells #[.map (some b)] 75)).heap.size 94 1 v ss.length ((ss.mergeSort (fun x y => decide (x ≤ y))).map encStr) ∧ (v = .slice none 0 0 ↔ ss = []) ∧ Below (w.alloc (.cells #[.map (some b)] 75)).heap.size (w.alloc (.cells #[.map (some b)] 75)) w' := by
  have hbl := hown.lt
  have hseq : SeqGives Fence.wide 2 Tryz.prog 63 #[.pointer (some ⟨w.heap.size, 0, none⟩)] encStr (fun ss => ss.Perm (strKeys D0)) (Maps.size D0) (w.alloc (.cells #[.map (some b)] 75)) :=
    AnyZ.keys_gives (ρ := Tryz.keys39_ren) { Tryz.keys39 with } Fence.wide _ trivial rfl (by omega) w.heap.size b nn D0 _ (by simp) (by simp) (by
      obtain ⟨es, clock, hb, Ft, hs, hD⟩ := hown
      exact ⟨es, clock, (Below.heap_alloc _ _ b hbl).trans hb, Ft, hs, hD⟩)
  exact AnyZ.sorted_in Tryz.sorted38 Fence.wide 5 trivial trivial trivial trivial rfl (by omega) (Tryz.sorts38 _) (enters_of Tryz.func62 (by kernel_rfl) rfl) 63 #[.pointer (some ⟨w.heap.size, 0, none⟩)] trivial (enters_of Tryz.func63 (by kernel_rfl) rfl) _ _ hmax hbytes _ hseq

set_option maxHeartbeats 1000000 in
/-- **.. AND FOR THE nil MAP: nil.** -/
theorem Tryz.slices_Sorted_keys_nil_38_39 (w : World) :
    CallsIn Fence.wide 5 Tryz.prog 38 #[.func (.func 63) #[] #[.pointer (some ⟨w.heap.size, 0, none⟩)]] (w.alloc (.cells #[.map none] 75)) fun e w' => ∃ (v : Value) (ss : List (List UInt8)), e = .returned v ∧ ss = [] ∧
      w'.ownsRow (w.alloc (.cells #[.map none] 75)).heap.size 94 1 v ss.length ((ss.mergeSort (fun x y => decide (x ≤ y))).map encStr) ∧ (v = .slice none 0 0 ↔ ss = []) ∧ Below (w.alloc (.cells #[.map none] 75)).heap.size (w.alloc (.cells #[.map none] 75)) w' := by
  have hseq : SeqGives Fence.wide 2 Tryz.prog 63 #[.pointer (some ⟨w.heap.size, 0, none⟩)] encStr (fun ss : List (List UInt8) => ss = []) 0 (w.alloc (.cells #[.map none] 75)) :=
    AnyZ.keys_gives_nil (ρ := Tryz.keys39_ren) { Tryz.keys39 with } Fence.wide _ trivial rfl w.heap.size _ (by simp) (by simp)
  exact AnyZ.sorted_in Tryz.sorted38 Fence.wide 5 trivial trivial trivial trivial rfl (by omega) (Tryz.sorts38 _) (enters_of Tryz.func62 (by kernel_rfl) rfl) 63 #[.pointer (some ⟨w.heap.size, 0, none⟩)] trivial (enters_of Tryz.func63 (by kernel_rfl) rfl) _ 0 (Nat.zero_le _) (by omega) _ hseq


end Go.Proofs
