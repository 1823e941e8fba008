/-
  DERIVED. GIVEN WITH THE SEED: THE CARDS: each row of YtedgonoeeeiilaaGreatDoorRows.lean that lists a variable, with what it lists TIED to the program's text (the seventh form; the later family's looks); each row that meets fmt, with fmt's text TOLD by the authors' own Lean function (tested against real Go, not proved from fmt's source: count such statements apart). THE CARD IS WHAT COUNTS. Prove the row's statement (the work); the ties are given (YtedgonoeeeiilaaGreatDoorTie.lean); close each card by the builder's one call (the guide's Derived/Test/ToyasCard.lean, 'card_holds'). Laid BY PROGRAM, IN A SANDBOX (cutbox-door.mjs). By AI agents, Wed Nov 11 2026. No macro, syntax, notation, axiom, sorry.
-/
import Derived.Test.YtedgonoeeeiilaaGreatDoorRows
import GoSem.ClaimSeven
namespace Go.Proofs.YtedgonoeeeiilaaGreatDoor
namespace Rows

/-- THE TIED CARD OF 'laws.FnResolveGroups'. -/
def fnResolveGroupsCard : Claim7 := { stood := { row := fnResolveGroupsRow, standIns := [], harness := (true, "f09885e815a6c6d7fcd716251bff436599a2bbc85bd3a7af9278684705c0ca0f"), looks := true }, kinds := [], alts := [], laidByText := true, laidKinds := [.data], laidTests := true, laidLooks := .later }
def FnResolveGroupsCardSaid : Prop := Claim7.holds Tryz.pinned (.plain (OpenSpec.ofChange fnResolveGroupsSpec)) fnResolveGroupsCard

/-- THE TIED CARD OF 'laws.FnResolveAction'. -/
def fnResolveActionCard : Claim7 := { stood := { row := fnResolveActionRow, standIns := [], harness := (true, "f09885e815a6c6d7fcd716251bff436599a2bbc85bd3a7af9278684705c0ca0f"), looks := true }, kinds := [], alts := [], laidByText := true, laidKinds := [.data, .data, .pinned], laidTests := true, laidLooks := .later }
def FnResolveActionCardSaid : Prop := Claim7.holds Tryz.pinned (.plain (OpenSpec.ofChange fnResolveActionSpec)) fnResolveActionCard

/-- THE SECOND FORM's CARD OF 'laws.FnResolveGroups'. -/
def fnResolveGroupsUptoCard : Claim7 := { stood := { row := fnResolveGroupsUptoRow, standIns := [], harness := (true, "f09885e815a6c6d7fcd716251bff436599a2bbc85bd3a7af9278684705c0ca0f"), looks := true }, kinds := [], alts := [], laidByText := true, laidKinds := [.data], laidTests := true, laidLooks := .later }
def FnResolveGroupsUptoCardSaid : Prop := Claim7.holds Tryz.pinned (.plain (OpenSpec.upto fnResolveGroupsSpec)) fnResolveGroupsUptoCard

/-- THE SECOND FORM's CARD OF 'laws.FnResolveAction'. -/
def fnResolveActionUptoCard : Claim7 := { stood := { row := fnResolveActionUptoRow, standIns := [], harness := (true, "f09885e815a6c6d7fcd716251bff436599a2bbc85bd3a7af9278684705c0ca0f"), looks := true }, kinds := [], alts := [], laidByText := true, laidKinds := [.data, .data, .pinned], laidTests := true, laidLooks := .later }
def FnResolveActionUptoCardSaid : Prop := Claim7.holds Tryz.pinned (.plain (OpenSpec.upto fnResolveActionSpec)) fnResolveActionUptoCard
end Rows
end Go.Proofs.YtedgonoeeeiilaaGreatDoor
