/-
  DERIVED. GIVEN WITH THE SEED: THE CARDS: each row of YthhjehajdcgkhaaGreatDoorRows.lean that lists a variable, with what it lists TIED to the program's text (the seventh form; the later family's looks); each row that meets fmt, with fmt's text TOLD by the authors' own Lean function (tested against real Go, not proved from fmt's source: count such statements apart). THE CARD IS WHAT COUNTS. Prove the row's statement (the work); the ties are given (YthhjehajdcgkhaaGreatDoorTie.lean); close each card by the builder's one call (the guide's Derived/Test/ToyasCard.lean, 'card_holds'). Laid BY PROGRAM, IN A SANDBOX (cutbox-door.mjs). By AI agents, Wed Nov 11 2026. No macro, syntax, notation, axiom, sorry.
-/
import Derived.Test.YthhjehajdcgkhaaGreatDoorRows
import GoSem.ClaimSeven
namespace Go.Proofs.YthhjehajdcgkhaaGreatDoor
namespace Rows

/-- THE TIED CARD OF 'laws.FnResolveChain'. -/
def fnResolveChainCard : Claim7 := { stood := { row := fnResolveChainRow, standIns := [], harness := (true, "144410a2bbbec86eb3e9d6325305a911b6863bef320d8acaaa20fbe630ffd252"), looks := true }, kinds := [], alts := [], laidByText := true, laidKinds := [.data], laidTests := true, laidLooks := .later }
def FnResolveChainCardSaid : Prop := Claim7.holds Tryz.pinned (.plain (OpenSpec.ofChange fnResolveChainSpec)) fnResolveChainCard

/-- THE TIED CARD OF 'laws.FnResolveEntity'. -/
def fnResolveEntityCard : Claim7 := { stood := { row := fnResolveEntityRow, standIns := [], harness := (true, "144410a2bbbec86eb3e9d6325305a911b6863bef320d8acaaa20fbe630ffd252"), looks := true }, kinds := [], alts := [], laidByText := true, laidKinds := [.data], laidTests := true, laidLooks := .later }
def FnResolveEntityCardSaid : Prop := Claim7.holds Tryz.pinned (.plain (OpenSpec.ofChange fnResolveEntitySpec)) fnResolveEntityCard

/-- THE TIED CARD OF 'laws.FnResolveGroups'. -/
def fnResolveGroupsCard : Claim7 := { stood := { row := fnResolveGroupsRow, standIns := [], harness := (true, "144410a2bbbec86eb3e9d6325305a911b6863bef320d8acaaa20fbe630ffd252"), looks := true }, kinds := [], alts := [], laidByText := true, laidKinds := [.data], laidTests := true, laidLooks := .later }
def FnResolveGroupsCardSaid : Prop := Claim7.holds Tryz.pinned (.plain (OpenSpec.ofChange fnResolveGroupsSpec)) fnResolveGroupsCard

/-- THE TIED CARD OF 'laws.FnResolveShadow'. -/
def fnResolveShadowCard : Claim7 := { stood := { row := fnResolveShadowRow, standIns := [], harness := (true, "144410a2bbbec86eb3e9d6325305a911b6863bef320d8acaaa20fbe630ffd252"), looks := true }, kinds := [], alts := [], laidByText := true, laidKinds := [.data], laidTests := true, laidLooks := .later }
def FnResolveShadowCardSaid : Prop := Claim7.holds Tryz.pinned (.plain (OpenSpec.ofChange fnResolveShadowSpec)) fnResolveShadowCard

/-- THE TIED CARD OF 'laws.FnResolveAction'. -/
def fnResolveActionCard : Claim7 := { stood := { row := fnResolveActionRow, standIns := [], harness := (true, "144410a2bbbec86eb3e9d6325305a911b6863bef320d8acaaa20fbe630ffd252"), looks := true }, kinds := [], alts := [], laidByText := true, laidKinds := [.data, .data, .pinned], laidTests := true, laidLooks := .later }
def FnResolveActionCardSaid : Prop := Claim7.holds Tryz.pinned (.plain (OpenSpec.ofChange fnResolveActionSpec)) fnResolveActionCard

/-- THE TIED CARD OF 'laws.FnResolveEnum'. -/
def fnResolveEnumCard : Claim7 := { stood := { row := fnResolveEnumRow, standIns := [], harness := (true, "144410a2bbbec86eb3e9d6325305a911b6863bef320d8acaaa20fbe630ffd252"), looks := true }, kinds := [], alts := [], laidByText := true, laidKinds := [.data, .data, .pinned], laidTests := true, laidLooks := .later }
def FnResolveEnumCardSaid : Prop := Claim7.holds Tryz.pinned (.plain (OpenSpec.ofChange fnResolveEnumSpec)) fnResolveEnumCard

/-- THE SECOND FORM's CARD OF 'laws.FnResolveChain'. -/
def fnResolveChainUptoCard : Claim7 := { stood := { row := fnResolveChainUptoRow, standIns := [], harness := (true, "144410a2bbbec86eb3e9d6325305a911b6863bef320d8acaaa20fbe630ffd252"), looks := true }, kinds := [], alts := [], laidByText := true, laidKinds := [.data], laidTests := true, laidLooks := .later }
def FnResolveChainUptoCardSaid : Prop := Claim7.holds Tryz.pinned (.plain (OpenSpec.upto fnResolveChainSpec)) fnResolveChainUptoCard

/-- THE SECOND FORM's CARD OF 'laws.FnResolveEntity'. -/
def fnResolveEntityUptoCard : Claim7 := { stood := { row := fnResolveEntityUptoRow, standIns := [], harness := (true, "144410a2bbbec86eb3e9d6325305a911b6863bef320d8acaaa20fbe630ffd252"), looks := true }, kinds := [], alts := [], laidByText := true, laidKinds := [.data], laidTests := true, laidLooks := .later }
def FnResolveEntityUptoCardSaid : Prop := Claim7.holds Tryz.pinned (.plain (OpenSpec.upto fnResolveEntitySpec)) fnResolveEntityUptoCard

/-- THE SECOND FORM's CARD OF 'laws.FnResolveGroups'. -/
def fnResolveGroupsUptoCard : Claim7 := { stood := { row := fnResolveGroupsUptoRow, standIns := [], harness := (true, "144410a2bbbec86eb3e9d6325305a911b6863bef320d8acaaa20fbe630ffd252"), looks := true }, kinds := [], alts := [], laidByText := true, laidKinds := [.data], laidTests := true, laidLooks := .later }
def FnResolveGroupsUptoCardSaid : Prop := Claim7.holds Tryz.pinned (.plain (OpenSpec.upto fnResolveGroupsSpec)) fnResolveGroupsUptoCard

/-- THE SECOND FORM's CARD OF 'laws.FnResolveShadow'. -/
def fnResolveShadowUptoCard : Claim7 := { stood := { row := fnResolveShadowUptoRow, standIns := [], harness := (true, "144410a2bbbec86eb3e9d6325305a911b6863bef320d8acaaa20fbe630ffd252"), looks := true }, kinds := [], alts := [], laidByText := true, laidKinds := [.data], laidTests := true, laidLooks := .later }
def FnResolveShadowUptoCardSaid : Prop := Claim7.holds Tryz.pinned (.plain (OpenSpec.upto fnResolveShadowSpec)) fnResolveShadowUptoCard

/-- THE SECOND FORM's CARD OF 'laws.FnResolveAction'. -/
def fnResolveActionUptoCard : Claim7 := { stood := { row := fnResolveActionUptoRow, standIns := [], harness := (true, "144410a2bbbec86eb3e9d6325305a911b6863bef320d8acaaa20fbe630ffd252"), looks := true }, kinds := [], alts := [], laidByText := true, laidKinds := [.data, .data, .pinned], laidTests := true, laidLooks := .later }
def FnResolveActionUptoCardSaid : Prop := Claim7.holds Tryz.pinned (.plain (OpenSpec.upto fnResolveActionSpec)) fnResolveActionUptoCard

/-- THE SECOND FORM's CARD OF 'laws.FnResolveEnum'. -/
def fnResolveEnumUptoCard : Claim7 := { stood := { row := fnResolveEnumUptoRow, standIns := [], harness := (true, "144410a2bbbec86eb3e9d6325305a911b6863bef320d8acaaa20fbe630ffd252"), looks := true }, kinds := [], alts := [], laidByText := true, laidKinds := [.data, .data, .pinned], laidTests := true, laidLooks := .later }
def FnResolveEnumUptoCardSaid : Prop := Claim7.holds Tryz.pinned (.plain (OpenSpec.upto fnResolveEnumSpec)) fnResolveEnumUptoCard
end Rows
end Go.Proofs.YthhjehajdcgkhaaGreatDoor
