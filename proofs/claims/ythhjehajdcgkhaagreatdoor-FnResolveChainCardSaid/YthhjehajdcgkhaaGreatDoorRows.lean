/-
  NARROWER THAN 'FOR EVERY INPUT', by the rows' own cells (each row's printed sentence says how): FnResolveChain: laid · FnResolveEntity: laid · FnResolveGroups: laid · FnResolveShadow: laid · FnResolveAction: laid · FnResolveEnum: laid.
  DERIVED. THE GIVEN ROWS OF THIS SEAT. 6 by the template 'for every input the law returns true; each argument reads behind the call as it read before'; 0 by the template 'total and deterministic' (their statements: YthhjehajdcgkhaaGreatDoorTotals.lean).
  GIVEN WITH THE SEED: the statements are not yours to turn. If you find one false, say at which input.
  Laid BY PROGRAM, IN A SANDBOX (cutbox-rows.mjs): the forced cells as the released guide's own fill.sh prints them over the translation 7491a9fe0da79af4… (all of the seat's roots in one cut). By AI agents, Wed Nov 11 2026. No macro, syntax, notation, axiom, sorry.
-/
import Derived.Test.YthhjehajdcgkhaaGreatDoorChecked
import GoSem.PinnedTables
import GoSem.Claim
import GoSem.ClaimJoined
import GoSem.ClaimMapViews
import Derived.JoinedTies
import Derived.KernelRfl
namespace Go.Proofs.YthhjehajdcgkhaaGreatDoor
/- THE CELL 'sum', in the pinned program and in every row, IS THE sha256 OF THE DUMP (.gsa) THAT YthhjehajdcgkhaaGreatDoorProg.lean LOADS. Nothing in Lean hashes anything: it is a label: what it is worth is what the hold of that sum in a sandbox is worth. -/
noncomputable def Tryz.pinned : Pinned := { name := "ythhjehajdcgkhaagreatdoor", sum := "7491a9fe0da79af4fe6f5880365862dfda55fa456a89e53e88d3d6af43384f9c", checked := Tryz.checked }
namespace Rows
def none {H : Type} : Left H := { results := [], args := [] }

/- WHAT THE LISTED PACKAGE-LEVEL VARIABLES READ AS WHEN THE CALL BEGINS. Each datum BY PROGRAM (the guide's laid-datum.mjs) off the statement by which the dump's own 'gosem.cut.vars' lays the variable. In a bare row this is a premise. The card (YthhjehajdcgkhaaGreatDoorCards.lean) ties it to the program's text. -/
def laid_pub_claviger_pub_cedargo_inner_mapset_peppercorn {H : Type} : DataW H := .agg []
def laid_unicode_utf8_acceptRanges {H : Type} : DataW H := .agg [.agg [.lit (.int .u8 128), .lit (.int .u8 191)], .agg [.lit (.int .u8 160), .lit (.int .u8 191)], .agg [.lit (.int .u8 128), .lit (.int .u8 159)], .agg [.lit (.int .u8 144), .lit (.int .u8 191)], .agg [.lit (.int .u8 128), .lit (.int .u8 143)], .agg [.lit (.int .u8 0), .lit (.int .u8 0)], .agg [.lit (.int .u8 0), .lit (.int .u8 0)], .agg [.lit (.int .u8 0), .lit (.int .u8 0)], .agg [.lit (.int .u8 0), .lit (.int .u8 0)], .agg [.lit (.int .u8 0), .lit (.int .u8 0)], .agg [.lit (.int .u8 0), .lit (.int .u8 0)], .agg [.lit (.int .u8 0), .lit (.int .u8 0)], .agg [.lit (.int .u8 0), .lit (.int .u8 0)], .agg [.lit (.int .u8 0), .lit (.int .u8 0)], .agg [.lit (.int .u8 0), .lit (.int .u8 0)], .agg [.lit (.int .u8 0), .lit (.int .u8 0)]]
/-- One of Go's own tables, pinned by name: the form's constant. -/
def laid_unicode_utf8_first : DataW Unit := Go.Pinned.utf8First

/-- 'laws.FnResolveChain': WHATEVER THE INPUT: true; the input reads as it did. -/
def fnResolveChainSpec : ChangeSpec := { name := "fnResolveChain", fn := fun _ => fun
  | [d1, d2, d3] => { results := [.lit (.bool true)], args := [d1, d2, d3] }
  | _ => none }
def fnResolveChainRow : OpenClaim := { program := "ythhjehajdcgkhaagreatdoor", sum := "7491a9fe0da79af4fe6f5880365862dfda55fa456a89e53e88d3d6af43384f9c", func := "pub-claviger/laws.FnResolveChain", spec := "fnResolveChain", unfollowed := true, recurses := true, named := ["pub-claviger/pub/cedargo/inner/mapset.peppercorn"], plainKeys := false, apart := false, laid := [("pub-claviger/pub/cedargo/inner/mapset.peppercorn", laid_pub_claviger_pub_cedargo_inner_mapset_peppercorn)] }
def FnResolveChainSaid : Prop := fnResolveChainRow.holds Tryz.pinned (OpenSpec.ofChange fnResolveChainSpec)

/-- ITS FALSE NEIGHBOUR: 'it returns false'. Refute it at one input. -/
def fnResolveChainWrong : ChangeSpec := { name := "fnResolveChain", fn := fun _ => fun
  | [d1, d2, d3] => { results := [.lit (.bool false)], args := [d1, d2, d3] }
  | _ => none }
def FnResolveChainWrongFalsely : Prop := fnResolveChainRow.holds Tryz.pinned (OpenSpec.ofChange fnResolveChainWrong)

/-- 'laws.FnResolveEntity': WHATEVER THE INPUT: true; the input reads as it did. -/
def fnResolveEntitySpec : ChangeSpec := { name := "fnResolveEntity", fn := fun _ => fun
  | [d1, d2, d3] => { results := [.lit (.bool true)], args := [d1, d2, d3] }
  | _ => none }
def fnResolveEntityRow : OpenClaim := { program := "ythhjehajdcgkhaagreatdoor", sum := "7491a9fe0da79af4fe6f5880365862dfda55fa456a89e53e88d3d6af43384f9c", func := "pub-claviger/laws.FnResolveEntity", spec := "fnResolveEntity", unfollowed := true, recurses := true, named := ["pub-claviger/pub/cedargo/inner/mapset.peppercorn"], plainKeys := false, apart := false, laid := [("pub-claviger/pub/cedargo/inner/mapset.peppercorn", laid_pub_claviger_pub_cedargo_inner_mapset_peppercorn)] }
def FnResolveEntitySaid : Prop := fnResolveEntityRow.holds Tryz.pinned (OpenSpec.ofChange fnResolveEntitySpec)

/-- ITS FALSE NEIGHBOUR: 'it returns false'. Refute it at one input. -/
def fnResolveEntityWrong : ChangeSpec := { name := "fnResolveEntity", fn := fun _ => fun
  | [d1, d2, d3] => { results := [.lit (.bool false)], args := [d1, d2, d3] }
  | _ => none }
def FnResolveEntityWrongFalsely : Prop := fnResolveEntityRow.holds Tryz.pinned (OpenSpec.ofChange fnResolveEntityWrong)

/-- 'laws.FnResolveGroups': WHATEVER THE INPUT: true; the input reads as it did. -/
def fnResolveGroupsSpec : ChangeSpec := { name := "fnResolveGroups", fn := fun _ => fun
  | [d1, d2, d3, d4] => { results := [.lit (.bool true)], args := [d1, d2, d3, d4] }
  | _ => none }
def fnResolveGroupsRow : OpenClaim := { program := "ythhjehajdcgkhaagreatdoor", sum := "7491a9fe0da79af4fe6f5880365862dfda55fa456a89e53e88d3d6af43384f9c", func := "pub-claviger/laws.FnResolveGroups", spec := "fnResolveGroups", unfollowed := true, recurses := true, named := ["pub-claviger/pub/cedargo/inner/mapset.peppercorn"], plainKeys := false, apart := false, laid := [("pub-claviger/pub/cedargo/inner/mapset.peppercorn", laid_pub_claviger_pub_cedargo_inner_mapset_peppercorn)] }
def FnResolveGroupsSaid : Prop := fnResolveGroupsRow.holds Tryz.pinned (OpenSpec.ofChange fnResolveGroupsSpec)

/-- ITS FALSE NEIGHBOUR: 'it returns false'. Refute it at one input. -/
def fnResolveGroupsWrong : ChangeSpec := { name := "fnResolveGroups", fn := fun _ => fun
  | [d1, d2, d3, d4] => { results := [.lit (.bool false)], args := [d1, d2, d3, d4] }
  | _ => none }
def FnResolveGroupsWrongFalsely : Prop := fnResolveGroupsRow.holds Tryz.pinned (OpenSpec.ofChange fnResolveGroupsWrong)

/-- 'laws.FnResolveShadow': WHATEVER THE INPUT: true; the input reads as it did. -/
def fnResolveShadowSpec : ChangeSpec := { name := "fnResolveShadow", fn := fun _ => fun
  | [d1, d2, d3] => { results := [.lit (.bool true)], args := [d1, d2, d3] }
  | _ => none }
def fnResolveShadowRow : OpenClaim := { program := "ythhjehajdcgkhaagreatdoor", sum := "7491a9fe0da79af4fe6f5880365862dfda55fa456a89e53e88d3d6af43384f9c", func := "pub-claviger/laws.FnResolveShadow", spec := "fnResolveShadow", unfollowed := true, recurses := true, named := ["pub-claviger/pub/cedargo/inner/mapset.peppercorn"], plainKeys := false, apart := false, laid := [("pub-claviger/pub/cedargo/inner/mapset.peppercorn", laid_pub_claviger_pub_cedargo_inner_mapset_peppercorn)] }
def FnResolveShadowSaid : Prop := fnResolveShadowRow.holds Tryz.pinned (OpenSpec.ofChange fnResolveShadowSpec)

/-- ITS FALSE NEIGHBOUR: 'it returns false'. Refute it at one input. -/
def fnResolveShadowWrong : ChangeSpec := { name := "fnResolveShadow", fn := fun _ => fun
  | [d1, d2, d3] => { results := [.lit (.bool false)], args := [d1, d2, d3] }
  | _ => none }
def FnResolveShadowWrongFalsely : Prop := fnResolveShadowRow.holds Tryz.pinned (OpenSpec.ofChange fnResolveShadowWrong)

/-- 'laws.FnResolveAction': WHATEVER THE INPUT: true; the input reads as it did. -/
def fnResolveActionSpec : ChangeSpec := { name := "fnResolveAction", fn := fun _ => fun
  | [d1, d2, d3, d4] => { results := [.lit (.bool true)], args := [d1, d2, d3, d4] }
  | _ => none }
def fnResolveActionRow : OpenClaim := { program := "ythhjehajdcgkhaagreatdoor", sum := "7491a9fe0da79af4fe6f5880365862dfda55fa456a89e53e88d3d6af43384f9c", func := "pub-claviger/laws.FnResolveAction", spec := "fnResolveAction", unfollowed := true, recurses := true, named := ["unicode/utf8.first", "unicode/utf8.acceptRanges", "pub-claviger/pub/cedargo/inner/mapset.peppercorn"], plainKeys := false, apart := false, laid := [("unicode/utf8.acceptRanges", laid_unicode_utf8_acceptRanges), ("pub-claviger/pub/cedargo/inner/mapset.peppercorn", laid_pub_claviger_pub_cedargo_inner_mapset_peppercorn), ("unicode/utf8.first", laid_unicode_utf8_first)] }
def FnResolveActionSaid : Prop := fnResolveActionRow.holds Tryz.pinned (OpenSpec.ofChange fnResolveActionSpec)

/-- ITS FALSE NEIGHBOUR: 'it returns false'. Refute it at one input. -/
def fnResolveActionWrong : ChangeSpec := { name := "fnResolveAction", fn := fun _ => fun
  | [d1, d2, d3, d4] => { results := [.lit (.bool false)], args := [d1, d2, d3, d4] }
  | _ => none }
def FnResolveActionWrongFalsely : Prop := fnResolveActionRow.holds Tryz.pinned (OpenSpec.ofChange fnResolveActionWrong)

/-- 'laws.FnResolveEnum': WHATEVER THE INPUT: true; the input reads as it did. -/
def fnResolveEnumSpec : ChangeSpec := { name := "fnResolveEnum", fn := fun _ => fun
  | [d] => { results := [.lit (.bool true)], args := [d] }
  | _ => none }
def fnResolveEnumRow : OpenClaim := { program := "ythhjehajdcgkhaagreatdoor", sum := "7491a9fe0da79af4fe6f5880365862dfda55fa456a89e53e88d3d6af43384f9c", func := "pub-claviger/laws.FnResolveEnum", spec := "fnResolveEnum", unfollowed := true, recurses := true, named := ["unicode/utf8.first", "unicode/utf8.acceptRanges", "pub-claviger/pub/cedargo/inner/mapset.peppercorn"], plainKeys := false, apart := false, laid := [("unicode/utf8.acceptRanges", laid_unicode_utf8_acceptRanges), ("pub-claviger/pub/cedargo/inner/mapset.peppercorn", laid_pub_claviger_pub_cedargo_inner_mapset_peppercorn), ("unicode/utf8.first", laid_unicode_utf8_first)] }
def FnResolveEnumSaid : Prop := fnResolveEnumRow.holds Tryz.pinned (OpenSpec.ofChange fnResolveEnumSpec)

/-- ITS FALSE NEIGHBOUR: 'it returns false'. Refute it at one input. -/
def fnResolveEnumWrong : ChangeSpec := { name := "fnResolveEnum", fn := fun _ => fun
  | [d] => { results := [.lit (.bool false)], args := [d] }
  | _ => none }
def FnResolveEnumWrongFalsely : Prop := fnResolveEnumRow.holds Tryz.pinned (OpenSpec.ofChange fnResolveEnumWrong)

/- THE SECOND FORM. 'bulk': how many values and letters a reading holds, each counted each time it is reached (what is shared counts as often as it is met; a slice's spare places count too). A statement '..UptoSaid' is the law's where the arguments, and the package variables that the reading takes, are together of bulk at most 1048576: NARROWER than '..Said'. Prove '..Said' where nothing that the law and all that it calls make is longer than what came in: it says more and counts as full. Else prove '..UptoSaid'. A law counts once. -/
mutual
def uptoBulk {H : Type} : DataW H → Nat
  | .lit (.string bytes) => bytes.length + 1
  | .lit _ => 1
  | .nil => 1
  | .ptr d => uptoBulk d + 1
  | .slice elems spare => uptoBulkAll elems + uptoBulkAll spare + 1
  | .agg parts => uptoBulkAll parts + 1
  | .iface _ d => uptoBulk d + 1
  | .map entries => uptoBulkEntries entries + 1
  | .held _ => 1
def uptoBulkAll {H : Type} : List (DataW H) → Nat
  | [] => 0
  | d :: r => uptoBulk d + uptoBulkAll r
def uptoBulkEntries {H : Type} : List (Lit × DataW H) → Nat
  | [] => 0
  | x :: r => uptoBulkEntry x + uptoBulkEntries r
def uptoBulkEntry {H : Type} : Lit × DataW H → Nat
  | (.string bytes, d) => bytes.length + uptoBulk d + 1
  | (_, d) => uptoBulk d + 1
 end
def uptoSmall : (H : Type) → List (DataW H) → Bool := fun _ ds => decide (uptoBulkAll ds ≤ 1048576)
def OpenSpec.upto (s : _root_.Go.ChangeSpec) : _root_.Go.OpenSpec := { _root_.Go.OpenSpec.ofChange s with cond := some uptoSmall }

/-- 'laws.FnResolveChain', WHERE WHAT IT READS IS OF BULK AT MOST 1048576: true; the input reads as it did. -/
def fnResolveChainUptoRow : OpenClaim := { program := "ythhjehajdcgkhaagreatdoor", sum := "7491a9fe0da79af4fe6f5880365862dfda55fa456a89e53e88d3d6af43384f9c", func := "pub-claviger/laws.FnResolveChain", spec := "fnResolveChain", unfollowed := true, recurses := true, named := ["pub-claviger/pub/cedargo/inner/mapset.peppercorn"], plainKeys := false, apart := false, laid := [("pub-claviger/pub/cedargo/inner/mapset.peppercorn", laid_pub_claviger_pub_cedargo_inner_mapset_peppercorn)], narrowed := true }
def FnResolveChainUptoSaid : Prop := fnResolveChainUptoRow.holds Tryz.pinned (OpenSpec.upto fnResolveChainSpec)

/-- 'laws.FnResolveEntity', WHERE WHAT IT READS IS OF BULK AT MOST 1048576: true; the input reads as it did. -/
def fnResolveEntityUptoRow : OpenClaim := { program := "ythhjehajdcgkhaagreatdoor", sum := "7491a9fe0da79af4fe6f5880365862dfda55fa456a89e53e88d3d6af43384f9c", func := "pub-claviger/laws.FnResolveEntity", spec := "fnResolveEntity", unfollowed := true, recurses := true, named := ["pub-claviger/pub/cedargo/inner/mapset.peppercorn"], plainKeys := false, apart := false, laid := [("pub-claviger/pub/cedargo/inner/mapset.peppercorn", laid_pub_claviger_pub_cedargo_inner_mapset_peppercorn)], narrowed := true }
def FnResolveEntityUptoSaid : Prop := fnResolveEntityUptoRow.holds Tryz.pinned (OpenSpec.upto fnResolveEntitySpec)

/-- 'laws.FnResolveGroups', WHERE WHAT IT READS IS OF BULK AT MOST 1048576: true; the input reads as it did. -/
def fnResolveGroupsUptoRow : OpenClaim := { program := "ythhjehajdcgkhaagreatdoor", sum := "7491a9fe0da79af4fe6f5880365862dfda55fa456a89e53e88d3d6af43384f9c", func := "pub-claviger/laws.FnResolveGroups", spec := "fnResolveGroups", unfollowed := true, recurses := true, named := ["pub-claviger/pub/cedargo/inner/mapset.peppercorn"], plainKeys := false, apart := false, laid := [("pub-claviger/pub/cedargo/inner/mapset.peppercorn", laid_pub_claviger_pub_cedargo_inner_mapset_peppercorn)], narrowed := true }
def FnResolveGroupsUptoSaid : Prop := fnResolveGroupsUptoRow.holds Tryz.pinned (OpenSpec.upto fnResolveGroupsSpec)

/-- 'laws.FnResolveShadow', WHERE WHAT IT READS IS OF BULK AT MOST 1048576: true; the input reads as it did. -/
def fnResolveShadowUptoRow : OpenClaim := { program := "ythhjehajdcgkhaagreatdoor", sum := "7491a9fe0da79af4fe6f5880365862dfda55fa456a89e53e88d3d6af43384f9c", func := "pub-claviger/laws.FnResolveShadow", spec := "fnResolveShadow", unfollowed := true, recurses := true, named := ["pub-claviger/pub/cedargo/inner/mapset.peppercorn"], plainKeys := false, apart := false, laid := [("pub-claviger/pub/cedargo/inner/mapset.peppercorn", laid_pub_claviger_pub_cedargo_inner_mapset_peppercorn)], narrowed := true }
def FnResolveShadowUptoSaid : Prop := fnResolveShadowUptoRow.holds Tryz.pinned (OpenSpec.upto fnResolveShadowSpec)

/-- 'laws.FnResolveAction', WHERE WHAT IT READS IS OF BULK AT MOST 1048576: true; the input reads as it did. -/
def fnResolveActionUptoRow : OpenClaim := { program := "ythhjehajdcgkhaagreatdoor", sum := "7491a9fe0da79af4fe6f5880365862dfda55fa456a89e53e88d3d6af43384f9c", func := "pub-claviger/laws.FnResolveAction", spec := "fnResolveAction", unfollowed := true, recurses := true, named := ["unicode/utf8.first", "unicode/utf8.acceptRanges", "pub-claviger/pub/cedargo/inner/mapset.peppercorn"], plainKeys := false, apart := false, laid := [("unicode/utf8.acceptRanges", laid_unicode_utf8_acceptRanges), ("pub-claviger/pub/cedargo/inner/mapset.peppercorn", laid_pub_claviger_pub_cedargo_inner_mapset_peppercorn), ("unicode/utf8.first", laid_unicode_utf8_first)], narrowed := true }
def FnResolveActionUptoSaid : Prop := fnResolveActionUptoRow.holds Tryz.pinned (OpenSpec.upto fnResolveActionSpec)

/-- 'laws.FnResolveEnum', WHERE WHAT IT READS IS OF BULK AT MOST 1048576: true; the input reads as it did. -/
def fnResolveEnumUptoRow : OpenClaim := { program := "ythhjehajdcgkhaagreatdoor", sum := "7491a9fe0da79af4fe6f5880365862dfda55fa456a89e53e88d3d6af43384f9c", func := "pub-claviger/laws.FnResolveEnum", spec := "fnResolveEnum", unfollowed := true, recurses := true, named := ["unicode/utf8.first", "unicode/utf8.acceptRanges", "pub-claviger/pub/cedargo/inner/mapset.peppercorn"], plainKeys := false, apart := false, laid := [("unicode/utf8.acceptRanges", laid_unicode_utf8_acceptRanges), ("pub-claviger/pub/cedargo/inner/mapset.peppercorn", laid_pub_claviger_pub_cedargo_inner_mapset_peppercorn), ("unicode/utf8.first", laid_unicode_utf8_first)], narrowed := true }
def FnResolveEnumUptoSaid : Prop := fnResolveEnumUptoRow.holds Tryz.pinned (OpenSpec.upto fnResolveEnumSpec)

end Rows
end Go.Proofs.YthhjehajdcgkhaaGreatDoor
