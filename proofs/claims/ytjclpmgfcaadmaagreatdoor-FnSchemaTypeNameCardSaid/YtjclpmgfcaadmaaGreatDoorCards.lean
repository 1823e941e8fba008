/-
  DERIVED. GIVEN WITH THE SEED: THE CARDS: each row of YtjclpmgfcaadmaaGreatDoorRows.lean that lists a variable, with what it lists TIED to the program's text (the seventh form; the later family's looks); each row that meets fmt, with fmt's text TOLD by the authors' own Lean function (tested against real Go, not proved from fmt's source: count such statements apart). THE CARD IS WHAT COUNTS. Prove the row's statement (the work); the ties are given (YtjclpmgfcaadmaaGreatDoorTie.lean); close each card by the builder's one call (the guide's Derived/Test/ToyasCard.lean, 'card_holds'). Laid BY PROGRAM, IN A SANDBOX (cutbox-door.mjs). By AI agents, Wed Nov 11 2026. No macro, syntax, notation, axiom, sorry.
-/
import Derived.Test.YtjclpmgfcaadmaaGreatDoorRows
import GoSem.ClaimSeven
namespace Go.Proofs.YtjclpmgfcaadmaaGreatDoor
namespace Rows

/-- THE TIED CARD OF 'laws.FnSchemaTypeName'. -/
def fnSchemaTypeNameCard : Claim7 := { stood := { row := fnSchemaTypeNameRow, standIns := [], harness := (true, "c6940c9a975d375aafa154d0185fcc895db7bba33a98e9809780917041914772"), looks := true }, kinds := [], alts := [], laidByText := true, laidKinds := [.data, .pinned], laidTests := true, laidLooks := .later }
def FnSchemaTypeNameCardSaid : Prop := Claim7.holds Tryz.pinned (.plain (OpenSpec.ofChange fnSchemaTypeNameSpec)) fnSchemaTypeNameCard

/-- THE TIED CARD OF 'laws.FnSchemaBlank'. -/
def fnSchemaBlankCard : Claim7 := { stood := { row := fnSchemaBlankRow, standIns := [], harness := (true, "c6940c9a975d375aafa154d0185fcc895db7bba33a98e9809780917041914772"), looks := true }, kinds := [], alts := [], laidByText := true, laidKinds := [.data, .pinned], laidTests := true, laidLooks := .later }
def FnSchemaBlankCardSaid : Prop := Claim7.holds Tryz.pinned (.plain (OpenSpec.ofChange fnSchemaBlankSpec)) fnSchemaBlankCard

/-- THE SECOND FORM's CARD OF 'laws.FnSchemaTypeName'. -/
def fnSchemaTypeNameUptoCard : Claim7 := { stood := { row := fnSchemaTypeNameUptoRow, standIns := [], harness := (true, "c6940c9a975d375aafa154d0185fcc895db7bba33a98e9809780917041914772"), looks := true }, kinds := [], alts := [], laidByText := true, laidKinds := [.data, .pinned], laidTests := true, laidLooks := .later }
def FnSchemaTypeNameUptoCardSaid : Prop := Claim7.holds Tryz.pinned (.plain (OpenSpec.upto fnSchemaTypeNameSpec)) fnSchemaTypeNameUptoCard

/-- THE SECOND FORM's CARD OF 'laws.FnSchemaBlank'. -/
def fnSchemaBlankUptoCard : Claim7 := { stood := { row := fnSchemaBlankUptoRow, standIns := [], harness := (true, "c6940c9a975d375aafa154d0185fcc895db7bba33a98e9809780917041914772"), looks := true }, kinds := [], alts := [], laidByText := true, laidKinds := [.data, .pinned], laidTests := true, laidLooks := .later }
def FnSchemaBlankUptoCardSaid : Prop := Claim7.holds Tryz.pinned (.plain (OpenSpec.upto fnSchemaBlankSpec)) fnSchemaBlankUptoCard
end Rows
end Go.Proofs.YtjclpmgfcaadmaaGreatDoor
