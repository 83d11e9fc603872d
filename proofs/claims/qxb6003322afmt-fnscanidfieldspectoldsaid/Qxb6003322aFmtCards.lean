/-
  DERIVED. GIVEN WITH THE SEED: THE CARDS: each row of Qxb6003322aFmtRows.lean that lists a variable, with what it lists TIED to the program's text (the seventh form; the later family's looks); each row that meets fmt, with fmt's text TOLD by the authors' own Lean function (tested against real Go, not proved from fmt's source: count such statements apart). THE CARD IS WHAT COUNTS. Prove the row's statement (the work); the ties are given (Qxb6003322aFmtTie.lean); close each card by the builder's one call (the guide's Derived/Test/ToyasCard.lean, 'card_holds'). Laid BY PROGRAM, IN A SANDBOX (cutbox-door.mjs). By AI agents, Wed Nov 11 2026. No macro, syntax, notation, axiom, sorry.
-/
import Derived.Test.Qxb6003322aFmtRows
import GoSem.ClaimSeven
namespace Go.Proofs.Qxb6003322aFmt
namespace Rows

/-- THE TOLD CARD OF 'zzlaws_graph_g1.FnScanIDFieldSpec'. -/
def fnScanIDFieldSpecCard : Claim7 := { stood := { row := fnScanIDFieldSpecRow, standIns := [], harness := (true, "75774056e43bf42ca4b5b043c1035444805f23fcb7e81d0aececc52ac83eed04"), looks := false }, told := true, goes := false }
def FnScanIDFieldSpecToldSaid : Prop := Claim7.holds Tryf.pinned (.plain (OpenSpec.ofChange fnScanIDFieldSpecSpec)) fnScanIDFieldSpecCard
/-- ITS FALSE NEIGHBOUR. Refute it at one input. -/
def FnScanIDFieldSpecToldWrongFalsely : Prop := Claim7.holds Tryf.pinned (.plain (OpenSpec.ofChange fnScanIDFieldSpecWrong)) fnScanIDFieldSpecCard

/-- THE TOLD AND TIED CARD OF 'zzlaws_graph_g1.FnParseEdgeLineSpec'. -/
def fnParseEdgeLineSpecCard : Claim7 := { stood := { row := fnParseEdgeLineSpecRow, standIns := [], harness := (true, "75774056e43bf42ca4b5b043c1035444805f23fcb7e81d0aececc52ac83eed04"), looks := false }, told := true, laidByText := true, laidKinds := [.data, .pinned], laidTests := true, laidLooks := .later, goes := false }
def FnParseEdgeLineSpecToldSaid : Prop := Claim7.holds Tryf.pinned (.plain (OpenSpec.ofChange fnParseEdgeLineSpecSpec)) fnParseEdgeLineSpecCard
/-- ITS FALSE NEIGHBOUR. Refute it at one input. -/
def FnParseEdgeLineSpecToldWrongFalsely : Prop := Claim7.holds Tryf.pinned (.plain (OpenSpec.ofChange fnParseEdgeLineSpecWrong)) fnParseEdgeLineSpecCard

/-- THE TOLD AND TIED CARD OF 'zzlaws_graph_g1.FnEdgeListLineReadsBack'. -/
def fnEdgeListLineReadsBackCard : Claim7 := { stood := { row := fnEdgeListLineReadsBackRow, standIns := [], harness := (true, "75774056e43bf42ca4b5b043c1035444805f23fcb7e81d0aececc52ac83eed04"), looks := false }, told := true, laidByText := true, laidKinds := [.data, .pinned], laidTests := true, laidLooks := .later, goes := false }
def FnEdgeListLineReadsBackToldSaid : Prop := Claim7.holds Tryf.pinned (.plain (OpenSpec.ofChange fnEdgeListLineReadsBackSpec)) fnEdgeListLineReadsBackCard
/-- ITS FALSE NEIGHBOUR. Refute it at one input. -/
def FnEdgeListLineReadsBackToldWrongFalsely : Prop := Claim7.holds Tryf.pinned (.plain (OpenSpec.ofChange fnEdgeListLineReadsBackWrong)) fnEdgeListLineReadsBackCard

/-- THE TOLD AND TIED CARD OF 'zzlaws_graph_g1.FnAdjLineIsItsEdgeLines'. -/
def fnAdjLineIsItsEdgeLinesCard : Claim7 := { stood := { row := fnAdjLineIsItsEdgeLinesRow, standIns := [], harness := (true, "75774056e43bf42ca4b5b043c1035444805f23fcb7e81d0aececc52ac83eed04"), looks := false }, told := true, laidByText := true, laidKinds := [.data, .pinned], laidTests := true, laidLooks := .later, goes := false }
def FnAdjLineIsItsEdgeLinesToldSaid : Prop := Claim7.holds Tryf.pinned (.plain (OpenSpec.ofChange fnAdjLineIsItsEdgeLinesSpec)) fnAdjLineIsItsEdgeLinesCard
/-- ITS FALSE NEIGHBOUR. Refute it at one input. -/
def FnAdjLineIsItsEdgeLinesToldWrongFalsely : Prop := Claim7.holds Tryf.pinned (.plain (OpenSpec.ofChange fnAdjLineIsItsEdgeLinesWrong)) fnAdjLineIsItsEdgeLinesCard

/-- THE TOLD CARD OF 'zzlaws_tokens_g1.FnCheckAcceptanceIsPerField'. -/
def fnCheckAcceptanceIsPerFieldCard : Claim7 := { stood := { row := fnCheckAcceptanceIsPerFieldRow, standIns := [], harness := (true, "75774056e43bf42ca4b5b043c1035444805f23fcb7e81d0aececc52ac83eed04"), looks := false }, told := true, goes := false }
def FnCheckAcceptanceIsPerFieldToldSaid : Prop := Claim7.holds Tryf.pinned (.plain (OpenSpec.ofChange fnCheckAcceptanceIsPerFieldSpec)) fnCheckAcceptanceIsPerFieldCard
/-- ITS FALSE NEIGHBOUR. Refute it at one input. -/
def FnCheckAcceptanceIsPerFieldToldWrongFalsely : Prop := Claim7.holds Tryf.pinned (.plain (OpenSpec.ofChange fnCheckAcceptanceIsPerFieldWrong)) fnCheckAcceptanceIsPerFieldCard

/-- THE TOLD CARD OF 'zzlaws_tokens_g1.FnCheckUpwardClosedInMaturityAndBuffer'. -/
def fnCheckUpwardClosedInMaturityAndBufferCard : Claim7 := { stood := { row := fnCheckUpwardClosedInMaturityAndBufferRow, standIns := [], harness := (true, "75774056e43bf42ca4b5b043c1035444805f23fcb7e81d0aececc52ac83eed04"), looks := false }, told := true, goes := false }
def FnCheckUpwardClosedInMaturityAndBufferToldSaid : Prop := Claim7.holds Tryf.pinned (.plain (OpenSpec.ofChange fnCheckUpwardClosedInMaturityAndBufferSpec)) fnCheckUpwardClosedInMaturityAndBufferCard
/-- ITS FALSE NEIGHBOUR. Refute it at one input. -/
def FnCheckUpwardClosedInMaturityAndBufferToldWrongFalsely : Prop := Claim7.holds Tryf.pinned (.plain (OpenSpec.ofChange fnCheckUpwardClosedInMaturityAndBufferWrong)) fnCheckUpwardClosedInMaturityAndBufferCard
end Rows
end Go.Proofs.Qxb6003322aFmt
