/- FnSchemaBlank: parseSchema where the text is at its end. -/
import Derived.Test.YtjclpmgfcaadmaaGreatDoorBlG
namespace Go.Proofs.YtjclpmgfcaadmaaGreatDoor
open Go.RowKit Go.Shelf

set_option maxRecDepth 100000 in
set_option maxHeartbeats 4000000 in
theorem pParse_c {w : World} {A : Nat} (h : w.cell? ⟨A, 1, none⟩ = some (.int .i64 0)) :
    Calls Tryz.prog 47 #[.pointer (some ⟨A, 0, none⟩)] w fun e w' => e = .returned (.tuple #[.pointer (some ⟨w.heap.size, 0, none⟩), .nilIface]) ∧ w' = w.alloc (.cells #[.map none, .map none, .map none, .map none, .map none] 63) := by
  go_enter Tryz.func47, Tryz.ntmps47
  go_wp2_with fail
  have e1 : (w.alloc (.cells #[.map none, .map none, .map none, .map none, .map none] 63)).cell? ⟨A, 1, none⟩ = some (.int .i64 0) := (Keep.alloc w _ NoB).cell h (fun h => h)
  go_loopg [] 1 (fun g wr => wr = w.alloc (.cells #[.map none, .map none, .map none, .map none, .map none] 63))
  case atStart => rfl
  case round =>
    subst hrel
    go_wp2_with fail
    go_ret2
    exact ⟨rfl, rfl⟩
end Go.Proofs.YtjclpmgfcaadmaaGreatDoor
