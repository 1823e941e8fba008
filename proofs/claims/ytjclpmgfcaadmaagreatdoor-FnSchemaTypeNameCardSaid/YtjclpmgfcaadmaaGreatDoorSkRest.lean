/- The contracts on sorted keys at this dump. -/
import Derived.Shelf.SlIter.Nil
import Derived.Shelf.SortM.Plain
import Derived.Shelf.SortM.SortNone
import Derived.Ground.GgzProg
import Derived.Ground.SlgmProg
import Derived.Test.YtjclpmgfcaadmaaGreatDoorProg
import Derived.Test.YtjclpmgfcaadmaaGreatDoorSkLay
namespace Go.Proofs
open Go.RowKit Go.Maps Go.Sort Go.Shelf
set_option maxRecDepth 100000


/-- slices.Sort's two contracts at this dump, at the fence that asks nothing. -/
theorem Tryz.sorts15 (m : Nat) : AnyZ.SortsIn Tryz.prog Tryz.sorted15_ren Fence.wide m :=
  ⟨fun blk off cap ss W hH hblk hsz => callsIn_wide.2 (AnyM.slices_Sort_string Tryz.sort34 blk off cap ss W hH hblk hsz),
   fun p cap W => callsIn_wide.2 (AnyM.slices_Sort_string_none Tryz.sort34 p cap W)⟩

/-- **maps.Keys[pub-claviger/pub/cedargo/x/exp/schema/ast.Namespaces,pub-claviger/pub/cedargo/types.Path,pub-claviger/pub/cedargo/x/exp/schema/ast.Namespace], at whatever map, the nil one too:** a function value over ONE NEW BLOCK, which holds the map. -/
theorem Tryz.maps_Keys_16 (mb : Option Nat) (W : World) : CallsIn Fence.wide 5 Tryz.prog 16 #[.map mb] W fun e w' => e = .returned (.func (.func 35) #[] #[.pointer (some ⟨W.heap.size, 0, none⟩)]) ∧ w' = W.alloc (.cells #[.map mb] 61) :=
  AnyZ.keys_in Tryz.keys16 Fence.wide 5 trivial rfl mb W

set_option maxHeartbeats 1000000 in
/-- **slices.Sorted[pub-claviger/pub/cedargo/types.Path] AT WHAT maps.Keys[pub-claviger/pub/cedargo/x/exp/schema/ast.Namespaces,pub-claviger/pub/cedargo/types.Path,pub-claviger/pub/cedargo/x/exp/schema/ast.Namespace] HANDED BACK FOR A MAP THAT IS NOT nil** ('w': the world AHEAD of maps.Keys' call): A NEW SLICE THAT HOLDS THE MAP's KEYS, SORTED; nil just where it has none; nothing that lay before has turned. -/
theorem Tryz.slices_Sorted_keys_15_16 {H : Type} (b nn : Nat) (D0 : DataW H) (R : Value → Option (DataW H × List MemPlace)) (w : World) (hown : w.ownsMap Tryz.prog 71 R b nn D0) (hmax : Maps.size D0 ≤ maxLen) (hbytes : Maps.size D0 * 16 ≤ 140737488355328) :
    CallsIn Fence.wide 5 Tryz.prog 15 #[.func (.func 35) #[] #[.pointer (some ⟨w.heap.size, 0, none⟩)]] (w.alloc (.cells #[.map (some b)] 61)) fun e w' => ∃ (v : Value) (ss : List (List UInt8)), e = .returned v ∧ ss.Perm (strKeys D0) ∧
      w'.ownsRow (w.alloc (.cells #[.map (some b)] 61)).heap.size 71 1 v ss.length ((ss.mergeSort (fun x y => decide (x ≤ y))).map encStr) ∧ (v = .slice none 0 0 ↔ ss = []) ∧ Below (w.alloc (.cells #[.map (some b)] 61)).heap.size (w.alloc (.cells #[.map (some b)] 61)) w' := by
  have hbl := hown.lt
  have hseq : SeqGives Fence.wide 2 Tryz.prog 35 #[.pointer (some ⟨w.heap.size, 0, none⟩)] encStr (fun ss => ss.Perm (strKeys D0)) (Maps.size D0) (w.alloc (.cells #[.map (some b)] 61)) :=
    AnyZ.keys_gives (ρ := Tryz.keys16_ren) { Tryz.keys16 with } Fence.wide _ trivial rfl (by omega) w.heap.size b nn D0 _ (by simp) (by simp) (by
      obtain ⟨es, clock, hb, Ft, hs, hD⟩ := hown
      exact ⟨es, clock, (Below.heap_alloc _ _ b hbl).trans hb, Ft, hs, hD⟩)
  exact AnyZ.sorted_in Tryz.sorted15 Fence.wide 5 trivial trivial trivial trivial rfl (by omega) (Tryz.sorts15 _) (enters_of Tryz.func34 (by kernel_rfl) rfl) 35 #[.pointer (some ⟨w.heap.size, 0, none⟩)] trivial (enters_of Tryz.func35 (by kernel_rfl) rfl) _ _ hmax hbytes _ hseq

set_option maxHeartbeats 1000000 in
/-- **.. AND FOR THE nil MAP: nil.** -/
theorem Tryz.slices_Sorted_keys_nil_15_16 (w : World) :
    CallsIn Fence.wide 5 Tryz.prog 15 #[.func (.func 35) #[] #[.pointer (some ⟨w.heap.size, 0, none⟩)]] (w.alloc (.cells #[.map none] 61)) fun e w' => ∃ (v : Value) (ss : List (List UInt8)), e = .returned v ∧ ss = [] ∧
      w'.ownsRow (w.alloc (.cells #[.map none] 61)).heap.size 71 1 v ss.length ((ss.mergeSort (fun x y => decide (x ≤ y))).map encStr) ∧ (v = .slice none 0 0 ↔ ss = []) ∧ Below (w.alloc (.cells #[.map none] 61)).heap.size (w.alloc (.cells #[.map none] 61)) w' := by
  have hseq : SeqGives Fence.wide 2 Tryz.prog 35 #[.pointer (some ⟨w.heap.size, 0, none⟩)] encStr (fun ss : List (List UInt8) => ss = []) 0 (w.alloc (.cells #[.map none] 61)) :=
    AnyZ.keys_gives_nil (ρ := Tryz.keys16_ren) { Tryz.keys16 with } Fence.wide _ trivial rfl w.heap.size _ (by simp) (by simp)
  exact AnyZ.sorted_in Tryz.sorted15 Fence.wide 5 trivial trivial trivial trivial rfl (by omega) (Tryz.sorts15 _) (enters_of Tryz.func34 (by kernel_rfl) rfl) 35 #[.pointer (some ⟨w.heap.size, 0, none⟩)] trivial (enters_of Tryz.func35 (by kernel_rfl) rfl) _ 0 (Nat.zero_le _) (by omega) _ hseq



/-- slices.Sort's two contracts at this dump, at the fence that asks nothing. -/
theorem Tryz.sorts24 (m : Nat) : AnyZ.SortsIn Tryz.prog Tryz.sorted24_ren Fence.wide m :=
  ⟨fun blk off cap ss W hH hblk hsz => callsIn_wide.2 (AnyM.slices_Sort_string Tryz.sort49 blk off cap ss W hH hblk hsz),
   fun p cap W => callsIn_wide.2 (AnyM.slices_Sort_string_none Tryz.sort49 p cap W)⟩

/-- **maps.Keys[pub-claviger/pub/cedargo/x/exp/schema/ast.Entities,pub-claviger/pub/cedargo/types.Ident,pub-claviger/pub/cedargo/x/exp/schema/ast.Entity], at whatever map, the nil one too:** a function value over ONE NEW BLOCK, which holds the map. -/
theorem Tryz.maps_Keys_25 (mb : Option Nat) (W : World) : CallsIn Fence.wide 5 Tryz.prog 25 #[.map mb] W fun e w' => e = .returned (.func (.func 50) #[] #[.pointer (some ⟨W.heap.size, 0, none⟩)]) ∧ w' = W.alloc (.cells #[.map mb] 53) :=
  AnyZ.keys_in Tryz.keys25 Fence.wide 5 trivial rfl mb W

set_option maxHeartbeats 1000000 in
/-- **slices.Sorted[pub-claviger/pub/cedargo/types.Ident] AT WHAT maps.Keys[pub-claviger/pub/cedargo/x/exp/schema/ast.Entities,pub-claviger/pub/cedargo/types.Ident,pub-claviger/pub/cedargo/x/exp/schema/ast.Entity] HANDED BACK FOR A MAP THAT IS NOT nil** ('w': the world AHEAD of maps.Keys' call): A NEW SLICE THAT HOLDS THE MAP's KEYS, SORTED; nil just where it has none; nothing that lay before has turned. -/
theorem Tryz.slices_Sorted_keys_24_25 {H : Type} (b nn : Nat) (D0 : DataW H) (R : Value → Option (DataW H × List MemPlace)) (w : World) (hown : w.ownsMap Tryz.prog 86 R b nn D0) (hmax : Maps.size D0 ≤ maxLen) (hbytes : Maps.size D0 * 16 ≤ 140737488355328) :
    CallsIn Fence.wide 5 Tryz.prog 24 #[.func (.func 50) #[] #[.pointer (some ⟨w.heap.size, 0, none⟩)]] (w.alloc (.cells #[.map (some b)] 53)) fun e w' => ∃ (v : Value) (ss : List (List UInt8)), e = .returned v ∧ ss.Perm (strKeys D0) ∧
      w'.ownsRow (w.alloc (.cells #[.map (some b)] 53)).heap.size 86 1 v ss.length ((ss.mergeSort (fun x y => decide (x ≤ y))).map encStr) ∧ (v = .slice none 0 0 ↔ ss = []) ∧ Below (w.alloc (.cells #[.map (some b)] 53)).heap.size (w.alloc (.cells #[.map (some b)] 53)) w' := by
  have hbl := hown.lt
  have hseq : SeqGives Fence.wide 2 Tryz.prog 50 #[.pointer (some ⟨w.heap.size, 0, none⟩)] encStr (fun ss => ss.Perm (strKeys D0)) (Maps.size D0) (w.alloc (.cells #[.map (some b)] 53)) :=
    AnyZ.keys_gives (ρ := Tryz.keys25_ren) { Tryz.keys25 with } Fence.wide _ trivial rfl (by omega) w.heap.size b nn D0 _ (by simp) (by simp) (by
      obtain ⟨es, clock, hb, Ft, hs, hD⟩ := hown
      exact ⟨es, clock, (Below.heap_alloc _ _ b hbl).trans hb, Ft, hs, hD⟩)
  exact AnyZ.sorted_in Tryz.sorted24 Fence.wide 5 trivial trivial trivial trivial rfl (by omega) (Tryz.sorts24 _) (enters_of Tryz.func49 (by kernel_rfl) rfl) 50 #[.pointer (some ⟨w.heap.size, 0, none⟩)] trivial (enters_of Tryz.func50 (by kernel_rfl) rfl) _ _ hmax hbytes _ hseq

set_option maxHeartbeats 1000000 in
/-- **.. AND FOR THE nil MAP: nil.** -/
theorem Tryz.slices_Sorted_keys_nil_24_25 (w : World) :
    CallsIn Fence.wide 5 Tryz.prog 24 #[.func (.func 50) #[] #[.pointer (some ⟨w.heap.size, 0, none⟩)]] (w.alloc (.cells #[.map none] 53)) fun e w' => ∃ (v : Value) (ss : List (List UInt8)), e = .returned v ∧ ss = [] ∧
      w'.ownsRow (w.alloc (.cells #[.map none] 53)).heap.size 86 1 v ss.length ((ss.mergeSort (fun x y => decide (x ≤ y))).map encStr) ∧ (v = .slice none 0 0 ↔ ss = []) ∧ Below (w.alloc (.cells #[.map none] 53)).heap.size (w.alloc (.cells #[.map none] 53)) w' := by
  have hseq : SeqGives Fence.wide 2 Tryz.prog 50 #[.pointer (some ⟨w.heap.size, 0, none⟩)] encStr (fun ss : List (List UInt8) => ss = []) 0 (w.alloc (.cells #[.map none] 53)) :=
    AnyZ.keys_gives_nil (ρ := Tryz.keys25_ren) { Tryz.keys25 with } Fence.wide _ trivial rfl w.heap.size _ (by simp) (by simp)
  exact AnyZ.sorted_in Tryz.sorted24 Fence.wide 5 trivial trivial trivial trivial rfl (by omega) (Tryz.sorts24 _) (enters_of Tryz.func49 (by kernel_rfl) rfl) 50 #[.pointer (some ⟨w.heap.size, 0, none⟩)] trivial (enters_of Tryz.func50 (by kernel_rfl) rfl) _ 0 (Nat.zero_le _) (by omega) _ hseq


/-- **maps.Keys[pub-claviger/pub/cedargo/x/exp/schema/ast.Enums,pub-claviger/pub/cedargo/types.Ident,pub-claviger/pub/cedargo/x/exp/schema/ast.Enum], at whatever map, the nil one too:** a function value over ONE NEW BLOCK, which holds the map. -/
theorem Tryz.maps_Keys_29 (mb : Option Nat) (W : World) : CallsIn Fence.wide 5 Tryz.prog 29 #[.map mb] W fun e w' => e = .returned (.func (.func 52) #[] #[.pointer (some ⟨W.heap.size, 0, none⟩)]) ∧ w' = W.alloc (.cells #[.map mb] 55) :=
  AnyZ.keys_in Tryz.keys29 Fence.wide 5 trivial rfl mb W

set_option maxHeartbeats 1000000 in
/-- **slices.Sorted[pub-claviger/pub/cedargo/types.Ident] AT WHAT maps.Keys[pub-claviger/pub/cedargo/x/exp/schema/ast.Enums,pub-claviger/pub/cedargo/types.Ident,pub-claviger/pub/cedargo/x/exp/schema/ast.Enum] HANDED BACK FOR A MAP THAT IS NOT nil** ('w': the world AHEAD of maps.Keys' call): A NEW SLICE THAT HOLDS THE MAP's KEYS, SORTED; nil just where it has none; nothing that lay before has turned. -/
theorem Tryz.slices_Sorted_keys_24_29 {H : Type} (b nn : Nat) (D0 : DataW H) (R : Value → Option (DataW H × List MemPlace)) (w : World) (hown : w.ownsMap Tryz.prog 86 R b nn D0) (hmax : Maps.size D0 ≤ maxLen) (hbytes : Maps.size D0 * 16 ≤ 140737488355328) :
    CallsIn Fence.wide 5 Tryz.prog 24 #[.func (.func 52) #[] #[.pointer (some ⟨w.heap.size, 0, none⟩)]] (w.alloc (.cells #[.map (some b)] 55)) fun e w' => ∃ (v : Value) (ss : List (List UInt8)), e = .returned v ∧ ss.Perm (strKeys D0) ∧
      w'.ownsRow (w.alloc (.cells #[.map (some b)] 55)).heap.size 86 1 v ss.length ((ss.mergeSort (fun x y => decide (x ≤ y))).map encStr) ∧ (v = .slice none 0 0 ↔ ss = []) ∧ Below (w.alloc (.cells #[.map (some b)] 55)).heap.size (w.alloc (.cells #[.map (some b)] 55)) w' := by
  have hbl := hown.lt
  have hseq : SeqGives Fence.wide 2 Tryz.prog 52 #[.pointer (some ⟨w.heap.size, 0, none⟩)] encStr (fun ss => ss.Perm (strKeys D0)) (Maps.size D0) (w.alloc (.cells #[.map (some b)] 55)) :=
    AnyZ.keys_gives (ρ := Tryz.keys29_ren) { Tryz.keys29 with } Fence.wide _ trivial rfl (by omega) w.heap.size b nn D0 _ (by simp) (by simp) (by
      obtain ⟨es, clock, hb, Ft, hs, hD⟩ := hown
      exact ⟨es, clock, (Below.heap_alloc _ _ b hbl).trans hb, Ft, hs, hD⟩)
  exact AnyZ.sorted_in Tryz.sorted24 Fence.wide 5 trivial trivial trivial trivial rfl (by omega) (Tryz.sorts24 _) (enters_of Tryz.func49 (by kernel_rfl) rfl) 52 #[.pointer (some ⟨w.heap.size, 0, none⟩)] trivial (enters_of Tryz.func52 (by kernel_rfl) rfl) _ _ hmax hbytes _ hseq

set_option maxHeartbeats 1000000 in
/-- **.. AND FOR THE nil MAP: nil.** -/
theorem Tryz.slices_Sorted_keys_nil_24_29 (w : World) :
    CallsIn Fence.wide 5 Tryz.prog 24 #[.func (.func 52) #[] #[.pointer (some ⟨w.heap.size, 0, none⟩)]] (w.alloc (.cells #[.map none] 55)) fun e w' => ∃ (v : Value) (ss : List (List UInt8)), e = .returned v ∧ ss = [] ∧
      w'.ownsRow (w.alloc (.cells #[.map none] 55)).heap.size 86 1 v ss.length ((ss.mergeSort (fun x y => decide (x ≤ y))).map encStr) ∧ (v = .slice none 0 0 ↔ ss = []) ∧ Below (w.alloc (.cells #[.map none] 55)).heap.size (w.alloc (.cells #[.map none] 55)) w' := by
  have hseq : SeqGives Fence.wide 2 Tryz.prog 52 #[.pointer (some ⟨w.heap.size, 0, none⟩)] encStr (fun ss : List (List UInt8) => ss = []) 0 (w.alloc (.cells #[.map none] 55)) :=
    AnyZ.keys_gives_nil (ρ := Tryz.keys29_ren) { Tryz.keys29 with } Fence.wide _ trivial rfl w.heap.size _ (by simp) (by simp)
  exact AnyZ.sorted_in Tryz.sorted24 Fence.wide 5 trivial trivial trivial trivial rfl (by omega) (Tryz.sorts24 _) (enters_of Tryz.func49 (by kernel_rfl) rfl) 52 #[.pointer (some ⟨w.heap.size, 0, none⟩)] trivial (enters_of Tryz.func52 (by kernel_rfl) rfl) _ 0 (Nat.zero_le _) (by omega) _ hseq



/-- slices.Sort's two contracts at this dump, at the fence that asks nothing. -/
theorem Tryz.sorts30 (m : Nat) : AnyZ.SortsIn Tryz.prog Tryz.sorted30_ren Fence.wide m :=
  ⟨fun blk off cap ss W hH hblk hsz => callsIn_wide.2 (AnyM.slices_Sort_string Tryz.sort54 blk off cap ss W hH hblk hsz),
   fun p cap W => callsIn_wide.2 (AnyM.slices_Sort_string_none Tryz.sort54 p cap W)⟩

/-- **maps.Keys[pub-claviger/pub/cedargo/x/exp/schema/ast.Actions,pub-claviger/pub/cedargo/types.String,pub-claviger/pub/cedargo/x/exp/schema/ast.Action], at whatever map, the nil one too:** a function value over ONE NEW BLOCK, which holds the map. -/
theorem Tryz.maps_Keys_31 (mb : Option Nat) (W : World) : CallsIn Fence.wide 5 Tryz.prog 31 #[.map mb] W fun e w' => e = .returned (.func (.func 55) #[] #[.pointer (some ⟨W.heap.size, 0, none⟩)]) ∧ w' = W.alloc (.cells #[.map mb] 57) :=
  AnyZ.keys_in Tryz.keys31 Fence.wide 5 trivial rfl mb W

set_option maxHeartbeats 1000000 in
/-- **slices.Sorted[pub-claviger/pub/cedargo/types.String] AT WHAT maps.Keys[pub-claviger/pub/cedargo/x/exp/schema/ast.Actions,pub-claviger/pub/cedargo/types.String,pub-claviger/pub/cedargo/x/exp/schema/ast.Action] HANDED BACK FOR A MAP THAT IS NOT nil** ('w': the world AHEAD of maps.Keys' call): A NEW SLICE THAT HOLDS THE MAP's KEYS, SORTED; nil just where it has none; nothing that lay before has turned. -/
theorem Tryz.slices_Sorted_keys_30_31 {H : Type} (b nn : Nat) (D0 : DataW H) (R : Value → Option (DataW H × List MemPlace)) (w : World) (hown : w.ownsMap Tryz.prog 106 R b nn D0) (hmax : Maps.size D0 ≤ maxLen) (hbytes : Maps.size D0 * 16 ≤ 140737488355328) :
    CallsIn Fence.wide 5 Tryz.prog 30 #[.func (.func 55) #[] #[.pointer (some ⟨w.heap.size, 0, none⟩)]] (w.alloc (.cells #[.map (some b)] 57)) fun e w' => ∃ (v : Value) (ss : List (List UInt8)), e = .returned v ∧ ss.Perm (strKeys D0) ∧
      w'.ownsRow (w.alloc (.cells #[.map (some b)] 57)).heap.size 106 1 v ss.length ((ss.mergeSort (fun x y => decide (x ≤ y))).map encStr) ∧ (v = .slice none 0 0 ↔ ss = []) ∧ Below (w.alloc (.cells #[.map (some b)] 57)).heap.size (w.alloc (.cells #[.map (some b)] 57)) w' := by
  have hbl := hown.lt
  have hseq : SeqGives Fence.wide 2 Tryz.prog 55 #[.pointer (some ⟨w.heap.size, 0, none⟩)] encStr (fun ss => ss.Perm (strKeys D0)) (Maps.size D0) (w.alloc (.cells #[.map (some b)] 57)) :=
    AnyZ.keys_gives (ρ := Tryz.keys31_ren) { Tryz.keys31 with } Fence.wide _ trivial rfl (by omega) w.heap.size b nn D0 _ (by simp) (by simp) (by
      obtain ⟨es, clock, hb, Ft, hs, hD⟩ := hown
      exact ⟨es, clock, (Below.heap_alloc _ _ b hbl).trans hb, Ft, hs, hD⟩)
  exact AnyZ.sorted_in Tryz.sorted30 Fence.wide 5 trivial trivial trivial trivial rfl (by omega) (Tryz.sorts30 _) (enters_of Tryz.func54 (by kernel_rfl) rfl) 55 #[.pointer (some ⟨w.heap.size, 0, none⟩)] trivial (enters_of Tryz.func55 (by kernel_rfl) rfl) _ _ hmax hbytes _ hseq

set_option maxHeartbeats 1000000 in
/-- **.. AND FOR THE nil MAP: nil.** -/
theorem Tryz.slices_Sorted_keys_nil_30_31 (w : World) :
    CallsIn Fence.wide 5 Tryz.prog 30 #[.func (.func 55) #[] #[.pointer (some ⟨w.heap.size, 0, none⟩)]] (w.alloc (.cells #[.map none] 57)) fun e w' => ∃ (v : Value) (ss : List (List UInt8)), e = .returned v ∧ ss = [] ∧
      w'.ownsRow (w.alloc (.cells #[.map none] 57)).heap.size 106 1 v ss.length ((ss.mergeSort (fun x y => decide (x ≤ y))).map encStr) ∧ (v = .slice none 0 0 ↔ ss = []) ∧ Below (w.alloc (.cells #[.map none] 57)).heap.size (w.alloc (.cells #[.map none] 57)) w' := by
  have hseq : SeqGives Fence.wide 2 Tryz.prog 55 #[.pointer (some ⟨w.heap.size, 0, none⟩)] encStr (fun ss : List (List UInt8) => ss = []) 0 (w.alloc (.cells #[.map none] 57)) :=
    AnyZ.keys_gives_nil (ρ := Tryz.keys31_ren) { Tryz.keys31 with } Fence.wide _ trivial rfl w.heap.size _ (by simp) (by simp)
  exact AnyZ.sorted_in Tryz.sorted30 Fence.wide 5 trivial trivial trivial trivial rfl (by omega) (Tryz.sorts30 _) (enters_of Tryz.func54 (by kernel_rfl) rfl) 55 #[.pointer (some ⟨w.heap.size, 0, none⟩)] trivial (enters_of Tryz.func55 (by kernel_rfl) rfl) _ 0 (Nat.zero_le _) (by omega) _ hseq


/-- **maps.Keys[pub-claviger/pub/cedargo/x/exp/schema/ast.CommonTypes,pub-claviger/pub/cedargo/types.Ident,pub-claviger/pub/cedargo/x/exp/schema/ast.CommonType], at whatever map, the nil one too:** a function value over ONE NEW BLOCK, which holds the map. -/
theorem Tryz.maps_Keys_32 (mb : Option Nat) (W : World) : CallsIn Fence.wide 5 Tryz.prog 32 #[.map mb] W fun e w' => e = .returned (.func (.func 56) #[] #[.pointer (some ⟨W.heap.size, 0, none⟩)]) ∧ w' = W.alloc (.cells #[.map mb] 59) :=
  AnyZ.keys_in Tryz.keys32 Fence.wide 5 trivial rfl mb W

set_option maxHeartbeats 1000000 in
/-- **slices.Sorted[pub-claviger/pub/cedargo/types.Ident] AT WHAT maps.Keys[pub-claviger/pub/cedargo/x/exp/schema/ast.CommonTypes,pub-claviger/pub/cedargo/types.Ident,pub-claviger/pub/cedargo/x/exp/schema/ast.CommonType] HANDED BACK FOR A MAP THAT IS NOT nil** ('w': the world AHEAD of maps.Keys' call): A NEW SLICE THAT HOLDS THE MAP's KEYS, SORTED; nil just where it has none; nothing that lay before has turned. -/
theorem Tryz.slices_Sorted_keys_24_32 {H : Type} (b nn : Nat) (D0 : DataW H) (R : Value → Option (DataW H × List MemPlace)) (w : World) (hown : w.ownsMap Tryz.prog 86 R b nn D0) (hmax : Maps.size D0 ≤ maxLen) (hbytes : Maps.size D0 * 16 ≤ 140737488355328) :
    CallsIn Fence.wide 5 Tryz.prog 24 #[.func (.func 56) #[] #[.pointer (some ⟨w.heap.size, 0, none⟩)]] (w.alloc (.cells #[.map (some b)] 59)) fun e w' => ∃ (v : Value) (ss : List (List UInt8)), e = .returned v ∧ ss.Perm (strKeys D0) ∧
      w'.ownsRow (w.alloc (.cells #[.map (some b)] 59)).heap.size 86 1 v ss.length ((ss.mergeSort (fun x y => decide (x ≤ y))).map encStr) ∧ (v = .slice none 0 0 ↔ ss = []) ∧ Below (w.alloc (.cells #[.map (some b)] 59)).heap.size (w.alloc (.cells #[.map (some b)] 59)) w' := by
  have hbl := hown.lt
  have hseq : SeqGives Fence.wide 2 Tryz.prog 56 #[.pointer (some ⟨w.heap.size, 0, none⟩)] encStr (fun ss => ss.Perm (strKeys D0)) (Maps.size D0) (w.alloc (.cells #[.map (some b)] 59)) :=
    AnyZ.keys_gives (ρ := Tryz.keys32_ren) { Tryz.keys32 with } Fence.wide _ trivial rfl (by omega) w.heap.size b nn D0 _ (by simp) (by simp) (by
      obtain ⟨es, clock, hb, Ft, hs, hD⟩ := hown
      exact ⟨es, clock, (Below.heap_alloc _ _ b hbl).trans hb, Ft, hs, hD⟩)
  exact AnyZ.sorted_in Tryz.sorted24 Fence.wide 5 trivial trivial trivial trivial rfl (by omega) (Tryz.sorts24 _) (enters_of Tryz.func49 (by kernel_rfl) rfl) 56 #[.pointer (some ⟨w.heap.size, 0, none⟩)] trivial (enters_of Tryz.func56 (by kernel_rfl) rfl) _ _ hmax hbytes _ hseq

set_option maxHeartbeats 1000000 in
/-- **.. AND FOR THE nil MAP: nil.** -/
theorem Tryz.slices_Sorted_keys_nil_24_32 (w : World) :
    CallsIn Fence.wide 5 Tryz.prog 24 #[.func (.func 56) #[] #[.pointer (some ⟨w.heap.size, 0, none⟩)]] (w.alloc (.cells #[.map none] 59)) fun e w' => ∃ (v : Value) (ss : List (List UInt8)), e = .returned v ∧ ss = [] ∧
      w'.ownsRow (w.alloc (.cells #[.map none] 59)).heap.size 86 1 v ss.length ((ss.mergeSort (fun x y => decide (x ≤ y))).map encStr) ∧ (v = .slice none 0 0 ↔ ss = []) ∧ Below (w.alloc (.cells #[.map none] 59)).heap.size (w.alloc (.cells #[.map none] 59)) w' := by
  have hseq : SeqGives Fence.wide 2 Tryz.prog 56 #[.pointer (some ⟨w.heap.size, 0, none⟩)] encStr (fun ss : List (List UInt8) => ss = []) 0 (w.alloc (.cells #[.map none] 59)) :=
    AnyZ.keys_gives_nil (ρ := Tryz.keys32_ren) { Tryz.keys32 with } Fence.wide _ trivial rfl w.heap.size _ (by simp) (by simp)
  exact AnyZ.sorted_in Tryz.sorted24 Fence.wide 5 trivial trivial trivial trivial rfl (by omega) (Tryz.sorts24 _) (enters_of Tryz.func49 (by kernel_rfl) rfl) 56 #[.pointer (some ⟨w.heap.size, 0, none⟩)] trivial (enters_of Tryz.func56 (by kernel_rfl) rfl) _ 0 (Nat.zero_le _) (by omega) _ hseq


/-- **maps.Keys[pub-claviger/pub/cedargo/x/exp/schema/ast.RecordType,pub-claviger/pub/cedargo/types.String,pub-claviger/pub/cedargo/x/exp/schema/ast.Attribute], at whatever map, the nil one too:** a function value over ONE NEW BLOCK, which holds the map. -/
theorem Tryz.maps_Keys_51 (mb : Option Nat) (W : World) : CallsIn Fence.wide 5 Tryz.prog 51 #[.map mb] W fun e w' => e = .returned (.func (.func 70) #[] #[.pointer (some ⟨W.heap.size, 0, none⟩)]) ∧ w' = W.alloc (.cells #[.map mb] 92) :=
  AnyZ.keys_in Tryz.keys51 Fence.wide 5 trivial rfl mb W

set_option maxHeartbeats 1000000 in
/-- **slices.Sorted[pub-claviger/pub/cedargo/types.String] AT WHAT maps.Keys[pub-claviger/pub/cedargo/x/exp/schema/ast.RecordType,pub-claviger/pub/cedargo/types.String,pub-claviger/pub/cedargo/x/exp/schema/ast.Attribute] HANDED BACK FOR A MAP THAT IS NOT nil** ('w': the world AHEAD of maps.Keys' call): A NEW SLICE THAT HOLDS THE MAP's KEYS, SORTED; nil just where it has none; nothing that lay before has turned. -/
theorem Tryz.slices_Sorted_keys_30_51 {H : Type} (b nn : Nat) (D0 : DataW H) (R : Value → Option (DataW H × List MemPlace)) (w : World) (hown : w.ownsMap Tryz.prog 106 R b nn D0) (hmax : Maps.size D0 ≤ maxLen) (hbytes : Maps.size D0 * 16 ≤ 140737488355328) :
    CallsIn Fence.wide 5 Tryz.prog 30 #[.func (.func 70) #[] #[.pointer (some ⟨w.heap.size, 0, none⟩)]] (w.alloc (.cells #[.map (some b)] 92)) fun e w' => ∃ (v : Value) (ss : List (List UInt8)), e = .returned v ∧ ss.Perm (strKeys D0) ∧
      w'.ownsRow (w.alloc (.cells #[.map (some b)] 92)).heap.size 106 1 v ss.length ((ss.mergeSort (fun x y => decide (x ≤ y))).map encStr) ∧ (v = .slice none 0 0 ↔ ss = []) ∧ Below (w.alloc (.cells #[.map (some b)] 92)).heap.size (w.alloc (.cells #[.map (some b)] 92)) w' := by
  have hbl := hown.lt
  have hseq : SeqGives Fence.wide 2 Tryz.prog 70 #[.pointer (some ⟨w.heap.size, 0, none⟩)] encStr (fun ss => ss.Perm (strKeys D0)) (Maps.size D0) (w.alloc (.cells #[.map (some b)] 92)) :=
    AnyZ.keys_gives (ρ := Tryz.keys51_ren) { Tryz.keys51 with } Fence.wide _ trivial rfl (by omega) w.heap.size b nn D0 _ (by simp) (by simp) (by
      obtain ⟨es, clock, hb, Ft, hs, hD⟩ := hown
      exact ⟨es, clock, (Below.heap_alloc _ _ b hbl).trans hb, Ft, hs, hD⟩)
  exact AnyZ.sorted_in Tryz.sorted30 Fence.wide 5 trivial trivial trivial trivial rfl (by omega) (Tryz.sorts30 _) (enters_of Tryz.func54 (by kernel_rfl) rfl) 70 #[.pointer (some ⟨w.heap.size, 0, none⟩)] trivial (enters_of Tryz.func70 (by kernel_rfl) rfl) _ _ hmax hbytes _ hseq

set_option maxHeartbeats 1000000 in
/-- **.. AND FOR THE nil MAP: nil.** -/
theorem Tryz.slices_Sorted_keys_nil_30_51 (w : World) :
    CallsIn Fence.wide 5 Tryz.prog 30 #[.func (.func 70) #[] #[.pointer (some ⟨w.heap.size, 0, none⟩)]] (w.alloc (.cells #[.map none] 92)) fun e w' => ∃ (v : Value) (ss : List (List UInt8)), e = .returned v ∧ ss = [] ∧
      w'.ownsRow (w.alloc (.cells #[.map none] 92)).heap.size 106 1 v ss.length ((ss.mergeSort (fun x y => decide (x ≤ y))).map encStr) ∧ (v = .slice none 0 0 ↔ ss = []) ∧ Below (w.alloc (.cells #[.map none] 92)).heap.size (w.alloc (.cells #[.map none] 92)) w' := by
  have hseq : SeqGives Fence.wide 2 Tryz.prog 70 #[.pointer (some ⟨w.heap.size, 0, none⟩)] encStr (fun ss : List (List UInt8) => ss = []) 0 (w.alloc (.cells #[.map none] 92)) :=
    AnyZ.keys_gives_nil (ρ := Tryz.keys51_ren) { Tryz.keys51 with } Fence.wide _ trivial rfl w.heap.size _ (by simp) (by simp)
  exact AnyZ.sorted_in Tryz.sorted30 Fence.wide 5 trivial trivial trivial trivial rfl (by omega) (Tryz.sorts30 _) (enters_of Tryz.func54 (by kernel_rfl) rfl) 70 #[.pointer (some ⟨w.heap.size, 0, none⟩)] trivial (enters_of Tryz.func70 (by kernel_rfl) rfl) _ 0 (Nat.zero_le _) (by omega) _ hseq



end Go.Proofs
