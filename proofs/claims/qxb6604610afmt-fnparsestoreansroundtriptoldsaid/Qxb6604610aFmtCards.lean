/-
  DERIVED. GIVEN WITH THE SEED: THE CARDS: each row of Qxb6604610aFmtRows.lean that lists a variable, with what it lists TIED to the program's text (the seventh form; the later family's looks); each row that meets fmt, with fmt's text TOLD by the authors' own Lean function (tested against real Go, not proved from fmt's source: count such statements apart). THE CARD IS WHAT COUNTS. Prove the row's statement (the work); the ties are given (Qxb6604610aFmtTie.lean); close each card by the builder's one call (the guide's Derived/Test/ToyasCard.lean, 'card_holds'). Laid BY PROGRAM, IN A SANDBOX (cutbox-door.mjs). By AI agents, Wed Nov 11 2026. No macro, syntax, notation, axiom, sorry.
-/
import Derived.Test.Qxb6604610aFmtRows
import GoSem.ClaimSeven
namespace Go.Proofs.Qxb6604610aFmt
namespace Rows

/-- THE TOLD CARD OF 'zzlaws_internal_reload_b1.FnOpaque8Exact'. -/
def fnOpaque8ExactCard : Claim7 := { stood := { row := fnOpaque8ExactRow, standIns := [], harness := (true, "babd348e32cf14dc124187d6457599c7effe13a9c019c06eed23f0069c6c3601"), looks := true }, told := true, goes := false }
def FnOpaque8ExactToldSaid : Prop := Claim7.holds Tryf.pinned (.plain (OpenSpec.ofChange fnOpaque8ExactSpec)) fnOpaque8ExactCard
/-- ITS FALSE NEIGHBOUR. Refute it at one input. -/
def FnOpaque8ExactToldWrongFalsely : Prop := Claim7.holds Tryf.pinned (.plain (OpenSpec.ofChange fnOpaque8ExactWrong)) fnOpaque8ExactCard

/-- THE TOLD CARD OF 'zzlaws_internal_reload_b1.FnOpaque8RoundTrip'. -/
def fnOpaque8RoundTripCard : Claim7 := { stood := { row := fnOpaque8RoundTripRow, standIns := [], harness := (true, "babd348e32cf14dc124187d6457599c7effe13a9c019c06eed23f0069c6c3601"), looks := true }, told := true, goes := false }
def FnOpaque8RoundTripToldSaid : Prop := Claim7.holds Tryf.pinned (.plain (OpenSpec.ofChange fnOpaque8RoundTripSpec)) fnOpaque8RoundTripCard
/-- ITS FALSE NEIGHBOUR. Refute it at one input. -/
def FnOpaque8RoundTripToldWrongFalsely : Prop := Claim7.holds Tryf.pinned (.plain (OpenSpec.ofChange fnOpaque8RoundTripWrong)) fnOpaque8RoundTripCard

/-- THE TOLD CARD OF 'zzlaws_internal_reload_b1.FnFailEndsReading'. -/
def fnFailEndsReadingCard : Claim7 := { stood := { row := fnFailEndsReadingRow, standIns := [], harness := (true, "babd348e32cf14dc124187d6457599c7effe13a9c019c06eed23f0069c6c3601"), looks := true }, told := true, goes := false }
def FnFailEndsReadingToldSaid : Prop := Claim7.holds Tryf.pinned (.plain (OpenSpec.ofChange fnFailEndsReadingSpec)) fnFailEndsReadingCard
/-- ITS FALSE NEIGHBOUR. Refute it at one input. -/
def FnFailEndsReadingToldWrongFalsely : Prop := Claim7.holds Tryf.pinned (.plain (OpenSpec.ofChange fnFailEndsReadingWrong)) fnFailEndsReadingCard

/-- THE TOLD CARD OF 'zzlaws_internal_reload_b1.FnParseStoreAnsExact'. -/
def fnParseStoreAnsExactCard : Claim7 := { stood := { row := fnParseStoreAnsExactRow, standIns := [], harness := (true, "babd348e32cf14dc124187d6457599c7effe13a9c019c06eed23f0069c6c3601"), looks := true }, told := true, goes := false }
def FnParseStoreAnsExactToldSaid : Prop := Claim7.holds Tryf.pinned (.plain (OpenSpec.ofChange fnParseStoreAnsExactSpec)) fnParseStoreAnsExactCard
/-- ITS FALSE NEIGHBOUR. Refute it at one input. -/
def FnParseStoreAnsExactToldWrongFalsely : Prop := Claim7.holds Tryf.pinned (.plain (OpenSpec.ofChange fnParseStoreAnsExactWrong)) fnParseStoreAnsExactCard

/-- THE TOLD CARD OF 'zzlaws_internal_reload_b1.FnParseStoreAnsRoundTrip'. -/
def fnParseStoreAnsRoundTripCard : Claim7 := { stood := { row := fnParseStoreAnsRoundTripRow, standIns := [], harness := (true, "babd348e32cf14dc124187d6457599c7effe13a9c019c06eed23f0069c6c3601"), looks := true }, told := true, goes := false }
def FnParseStoreAnsRoundTripToldSaid : Prop := Claim7.holds Tryf.pinned (.plain (OpenSpec.ofChange fnParseStoreAnsRoundTripSpec)) fnParseStoreAnsRoundTripCard
/-- ITS FALSE NEIGHBOUR. Refute it at one input. -/
def FnParseStoreAnsRoundTripToldWrongFalsely : Prop := Claim7.holds Tryf.pinned (.plain (OpenSpec.ofChange fnParseStoreAnsRoundTripWrong)) fnParseStoreAnsRoundTripCard
end Rows
end Go.Proofs.Qxb6604610aFmt
