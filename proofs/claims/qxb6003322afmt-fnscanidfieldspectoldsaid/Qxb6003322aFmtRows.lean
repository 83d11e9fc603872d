/-
  NARROWER THAN 'FOR EVERY INPUT', by the rows' own cells (each row's printed sentence says how): FnParseEdgeLineSpec: laid · FnEdgeListLineReadsBack: laid · FnAdjLineIsItsEdgeLines: laid.
  DERIVED. THE GIVEN ROWS OF THIS SEAT. 6 by the template 'for every input the law returns true; each argument reads behind the call as it read before'; 0 by the template 'total and deterministic' (their statements: Qxb6003322aFmtTotals.lean).
  GIVEN WITH THE SEED: the statements are not yours to turn. If you find one false, say at which input.
  Laid BY PROGRAM, IN A SANDBOX (cutbox-rows.mjs): the forced cells as the released guide's own fill.sh prints them over the translation 4e6c30009cc9f422… (all of the seat's roots in one cut). By AI agents, Wed Nov 11 2026. No macro, syntax, notation, axiom, sorry.
-/
import Derived.Test.Qxb6003322aFmtChecked
import GoSem.PinnedTables
import GoSem.Claim
import GoSem.ClaimJoined
import GoSem.ClaimMapViews
import Derived.JoinedTies
import Derived.KernelRfl
namespace Go.Proofs.Qxb6003322aFmt
/- THE CELL 'sum', in the pinned program and in every row, IS THE sha256 OF THE DUMP (.gsa) THAT Qxb6003322aFmtProg.lean LOADS. Nothing in Lean hashes anything: it is a label: what it is worth is what the hold of that sum in a sandbox is worth. -/
noncomputable def Tryf.pinned : Pinned := { name := "qxb6003322afmt", sum := "4e6c30009cc9f422f330a3ee401ea3a75a19a3aa6544a4c3c53cde4f61b02c03", checked := Tryf.checked }
namespace Rows
def none {H : Type} : Left H := { results := [], args := [] }

/- WHAT THE LISTED PACKAGE-LEVEL VARIABLES READ AS WHEN THE CALL BEGINS. Each datum BY PROGRAM (the guide's laid-datum.mjs) off the statement by which the dump's own 'gosem.cut.vars' lays the variable. In a bare row this is a premise. The card (Qxb6003322aFmtCards.lean) ties it to the program's text. -/
def laid_unicode_utf8_acceptRanges {H : Type} : DataW H := .agg [.agg [.lit (.int .u8 128), .lit (.int .u8 191)], .agg [.lit (.int .u8 160), .lit (.int .u8 191)], .agg [.lit (.int .u8 128), .lit (.int .u8 159)], .agg [.lit (.int .u8 144), .lit (.int .u8 191)], .agg [.lit (.int .u8 128), .lit (.int .u8 143)], .agg [.lit (.int .u8 0), .lit (.int .u8 0)], .agg [.lit (.int .u8 0), .lit (.int .u8 0)], .agg [.lit (.int .u8 0), .lit (.int .u8 0)], .agg [.lit (.int .u8 0), .lit (.int .u8 0)], .agg [.lit (.int .u8 0), .lit (.int .u8 0)], .agg [.lit (.int .u8 0), .lit (.int .u8 0)], .agg [.lit (.int .u8 0), .lit (.int .u8 0)], .agg [.lit (.int .u8 0), .lit (.int .u8 0)], .agg [.lit (.int .u8 0), .lit (.int .u8 0)], .agg [.lit (.int .u8 0), .lit (.int .u8 0)], .agg [.lit (.int .u8 0), .lit (.int .u8 0)]]
/-- One of Go's own tables, pinned by name: the form's constant. -/
def laid_unicode_utf8_first : DataW Unit := Go.Pinned.utf8First

/-- 'zzlaws_graph_g1.FnScanIDFieldSpec': WHATEVER THE INPUT: true; the input reads as it did. -/
def fnScanIDFieldSpecSpec : ChangeSpec := { name := "fnScanIDFieldSpec", fn := fun _ => fun
  | [d1, d2] => { results := [.lit (.bool true)], args := [d1, d2] }
  | _ => none }
def fnScanIDFieldSpecRow : OpenClaim := { program := "qxb6003322afmt", sum := "4e6c30009cc9f422f330a3ee401ea3a75a19a3aa6544a4c3c53cde4f61b02c03", func := "example.com/churnweave/churnweave/zzlaws_graph_g1.FnScanIDFieldSpec", spec := "fnScanIDFieldSpec", stops := ["fmt.errorf"], inPlace := ["fmt.errorf"], apart := false }
/-- NO THEOREM (fmt's text is open here; it may be false): for the released tool's asking of the row's closed facts alone. THE STATEMENT IS 'FnScanIDFieldSpecToldSaid' (Qxb6003322aFmtCards.lean). -/
def FnScanIDFieldSpecFormAsk : Prop := fnScanIDFieldSpecRow.holds Tryf.pinned (OpenSpec.ofChange fnScanIDFieldSpecSpec)

/-- ITS FALSE NEIGHBOUR: 'it returns false'. Refute it at one input. -/
def fnScanIDFieldSpecWrong : ChangeSpec := { name := "fnScanIDFieldSpec", fn := fun _ => fun
  | [d1, d2] => { results := [.lit (.bool false)], args := [d1, d2] }
  | _ => none }
def FnScanIDFieldSpecWrongFormAsk : Prop := fnScanIDFieldSpecRow.holds Tryf.pinned (OpenSpec.ofChange fnScanIDFieldSpecWrong)

/-- 'zzlaws_graph_g1.FnParseEdgeLineSpec': WHATEVER THE INPUT: true; the input reads as it did. -/
def fnParseEdgeLineSpecSpec : ChangeSpec := { name := "fnParseEdgeLineSpec", fn := fun _ => fun
  | [d] => { results := [.lit (.bool true)], args := [d] }
  | _ => none }
def fnParseEdgeLineSpecRow : OpenClaim := { program := "qxb6003322afmt", sum := "4e6c30009cc9f422f330a3ee401ea3a75a19a3aa6544a4c3c53cde4f61b02c03", func := "example.com/churnweave/churnweave/zzlaws_graph_g1.FnParseEdgeLineSpec", spec := "fnParseEdgeLineSpec", stops := ["fmt.errorf"], inPlace := ["fmt.errorf"], named := ["unicode/utf8.first", "unicode/utf8.acceptRanges"], apart := false, laid := [("unicode/utf8.acceptRanges", laid_unicode_utf8_acceptRanges), ("unicode/utf8.first", laid_unicode_utf8_first)] }
/-- NO THEOREM (fmt's text is open here; it may be false): for the released tool's asking of the row's closed facts alone. THE STATEMENT IS 'FnParseEdgeLineSpecToldSaid' (Qxb6003322aFmtCards.lean). -/
def FnParseEdgeLineSpecFormAsk : Prop := fnParseEdgeLineSpecRow.holds Tryf.pinned (OpenSpec.ofChange fnParseEdgeLineSpecSpec)

/-- ITS FALSE NEIGHBOUR: 'it returns false'. Refute it at one input. -/
def fnParseEdgeLineSpecWrong : ChangeSpec := { name := "fnParseEdgeLineSpec", fn := fun _ => fun
  | [d] => { results := [.lit (.bool false)], args := [d] }
  | _ => none }
def FnParseEdgeLineSpecWrongFormAsk : Prop := fnParseEdgeLineSpecRow.holds Tryf.pinned (OpenSpec.ofChange fnParseEdgeLineSpecWrong)

/-- 'zzlaws_graph_g1.FnEdgeListLineReadsBack': WHATEVER THE INPUT: true; the input reads as it did. -/
def fnEdgeListLineReadsBackSpec : ChangeSpec := { name := "fnEdgeListLineReadsBack", fn := fun _ => fun
  | [d1, d2, d3, d4, d5, d6, d7, d8, d9] => { results := [.lit (.bool true)], args := [d1, d2, d3, d4, d5, d6, d7, d8, d9] }
  | _ => none }
def fnEdgeListLineReadsBackRow : OpenClaim := { program := "qxb6003322afmt", sum := "4e6c30009cc9f422f330a3ee401ea3a75a19a3aa6544a4c3c53cde4f61b02c03", func := "example.com/churnweave/churnweave/zzlaws_graph_g1.FnEdgeListLineReadsBack", spec := "fnEdgeListLineReadsBack", stops := ["fmt.errorf"], inPlace := ["fmt.errorf"], named := ["unicode/utf8.first", "unicode/utf8.acceptRanges"], apart := false, laid := [("unicode/utf8.acceptRanges", laid_unicode_utf8_acceptRanges), ("unicode/utf8.first", laid_unicode_utf8_first)] }
/-- NO THEOREM (fmt's text is open here; it may be false): for the released tool's asking of the row's closed facts alone. THE STATEMENT IS 'FnEdgeListLineReadsBackToldSaid' (Qxb6003322aFmtCards.lean). -/
def FnEdgeListLineReadsBackFormAsk : Prop := fnEdgeListLineReadsBackRow.holds Tryf.pinned (OpenSpec.ofChange fnEdgeListLineReadsBackSpec)

/-- ITS FALSE NEIGHBOUR: 'it returns false'. Refute it at one input. -/
def fnEdgeListLineReadsBackWrong : ChangeSpec := { name := "fnEdgeListLineReadsBack", fn := fun _ => fun
  | [d1, d2, d3, d4, d5, d6, d7, d8, d9] => { results := [.lit (.bool false)], args := [d1, d2, d3, d4, d5, d6, d7, d8, d9] }
  | _ => none }
def FnEdgeListLineReadsBackWrongFormAsk : Prop := fnEdgeListLineReadsBackRow.holds Tryf.pinned (OpenSpec.ofChange fnEdgeListLineReadsBackWrong)

/-- 'zzlaws_graph_g1.FnAdjLineIsItsEdgeLines': WHATEVER THE INPUT: true; the input reads as it did. -/
def fnAdjLineIsItsEdgeLinesSpec : ChangeSpec := { name := "fnAdjLineIsItsEdgeLines", fn := fun _ => fun
  | [d] => { results := [.lit (.bool true)], args := [d] }
  | _ => none }
def fnAdjLineIsItsEdgeLinesRow : OpenClaim := { program := "qxb6003322afmt", sum := "4e6c30009cc9f422f330a3ee401ea3a75a19a3aa6544a4c3c53cde4f61b02c03", func := "example.com/churnweave/churnweave/zzlaws_graph_g1.FnAdjLineIsItsEdgeLines", spec := "fnAdjLineIsItsEdgeLines", stops := ["fmt.errorf"], inPlace := ["fmt.errorf"], named := ["unicode/utf8.first", "unicode/utf8.acceptRanges"], apart := false, laid := [("unicode/utf8.acceptRanges", laid_unicode_utf8_acceptRanges), ("unicode/utf8.first", laid_unicode_utf8_first)] }
/-- NO THEOREM (fmt's text is open here; it may be false): for the released tool's asking of the row's closed facts alone. THE STATEMENT IS 'FnAdjLineIsItsEdgeLinesToldSaid' (Qxb6003322aFmtCards.lean). -/
def FnAdjLineIsItsEdgeLinesFormAsk : Prop := fnAdjLineIsItsEdgeLinesRow.holds Tryf.pinned (OpenSpec.ofChange fnAdjLineIsItsEdgeLinesSpec)

/-- ITS FALSE NEIGHBOUR: 'it returns false'. Refute it at one input. -/
def fnAdjLineIsItsEdgeLinesWrong : ChangeSpec := { name := "fnAdjLineIsItsEdgeLines", fn := fun _ => fun
  | [d] => { results := [.lit (.bool false)], args := [d] }
  | _ => none }
def FnAdjLineIsItsEdgeLinesWrongFormAsk : Prop := fnAdjLineIsItsEdgeLinesRow.holds Tryf.pinned (OpenSpec.ofChange fnAdjLineIsItsEdgeLinesWrong)

/-- 'zzlaws_tokens_g1.FnCheckAcceptanceIsPerField': WHATEVER THE INPUT: true; the input reads as it did. -/
def fnCheckAcceptanceIsPerFieldSpec : ChangeSpec := { name := "fnCheckAcceptanceIsPerField", fn := fun _ => fun
  | [d1, d2, d3, d4, d5, d6, d7, d8, d9, d10, d11] => { results := [.lit (.bool true)], args := [d1, d2, d3, d4, d5, d6, d7, d8, d9, d10, d11] }
  | _ => none }
def fnCheckAcceptanceIsPerFieldRow : OpenClaim := { program := "qxb6003322afmt", sum := "4e6c30009cc9f422f330a3ee401ea3a75a19a3aa6544a4c3c53cde4f61b02c03", func := "example.com/churnweave/churnweave/zzlaws_tokens_g1.FnCheckAcceptanceIsPerField", spec := "fnCheckAcceptanceIsPerField", stops := ["fmt.errorf"], inPlace := ["fmt.errorf"], apart := false }
/-- NO THEOREM (fmt's text is open here; it may be false): for the released tool's asking of the row's closed facts alone. THE STATEMENT IS 'FnCheckAcceptanceIsPerFieldToldSaid' (Qxb6003322aFmtCards.lean). -/
def FnCheckAcceptanceIsPerFieldFormAsk : Prop := fnCheckAcceptanceIsPerFieldRow.holds Tryf.pinned (OpenSpec.ofChange fnCheckAcceptanceIsPerFieldSpec)

/-- ITS FALSE NEIGHBOUR: 'it returns false'. Refute it at one input. -/
def fnCheckAcceptanceIsPerFieldWrong : ChangeSpec := { name := "fnCheckAcceptanceIsPerField", fn := fun _ => fun
  | [d1, d2, d3, d4, d5, d6, d7, d8, d9, d10, d11] => { results := [.lit (.bool false)], args := [d1, d2, d3, d4, d5, d6, d7, d8, d9, d10, d11] }
  | _ => none }
def FnCheckAcceptanceIsPerFieldWrongFormAsk : Prop := fnCheckAcceptanceIsPerFieldRow.holds Tryf.pinned (OpenSpec.ofChange fnCheckAcceptanceIsPerFieldWrong)

/-- 'zzlaws_tokens_g1.FnCheckUpwardClosedInMaturityAndBuffer': WHATEVER THE INPUT: true; the input reads as it did. -/
def fnCheckUpwardClosedInMaturityAndBufferSpec : ChangeSpec := { name := "fnCheckUpwardClosedInMaturityAndBuffer", fn := fun _ => fun
  | [d1, d2, d3, d4, d5, d6, d7] => { results := [.lit (.bool true)], args := [d1, d2, d3, d4, d5, d6, d7] }
  | _ => none }
def fnCheckUpwardClosedInMaturityAndBufferRow : OpenClaim := { program := "qxb6003322afmt", sum := "4e6c30009cc9f422f330a3ee401ea3a75a19a3aa6544a4c3c53cde4f61b02c03", func := "example.com/churnweave/churnweave/zzlaws_tokens_g1.FnCheckUpwardClosedInMaturityAndBuffer", spec := "fnCheckUpwardClosedInMaturityAndBuffer", stops := ["fmt.errorf"], inPlace := ["fmt.errorf"], apart := false }
/-- NO THEOREM (fmt's text is open here; it may be false): for the released tool's asking of the row's closed facts alone. THE STATEMENT IS 'FnCheckUpwardClosedInMaturityAndBufferToldSaid' (Qxb6003322aFmtCards.lean). -/
def FnCheckUpwardClosedInMaturityAndBufferFormAsk : Prop := fnCheckUpwardClosedInMaturityAndBufferRow.holds Tryf.pinned (OpenSpec.ofChange fnCheckUpwardClosedInMaturityAndBufferSpec)

/-- ITS FALSE NEIGHBOUR: 'it returns false'. Refute it at one input. -/
def fnCheckUpwardClosedInMaturityAndBufferWrong : ChangeSpec := { name := "fnCheckUpwardClosedInMaturityAndBuffer", fn := fun _ => fun
  | [d1, d2, d3, d4, d5, d6, d7] => { results := [.lit (.bool false)], args := [d1, d2, d3, d4, d5, d6, d7] }
  | _ => none }
def FnCheckUpwardClosedInMaturityAndBufferWrongFormAsk : Prop := fnCheckUpwardClosedInMaturityAndBufferRow.holds Tryf.pinned (OpenSpec.ofChange fnCheckUpwardClosedInMaturityAndBufferWrong)

end Rows
end Go.Proofs.Qxb6003322aFmt
