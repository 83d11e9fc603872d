/-
  No cell of these rows narrows 'for every input' (looked for: loops, veiled, ifaces, maps, wideKeys, modest, calm, conditions, laid).
  DERIVED. THE GIVEN ROWS OF THIS SEAT. 5 by the template 'for every input the law returns true; each argument reads behind the call as it read before'; 0 by the template 'total and deterministic' (their statements: Qxb6604610aFmtTotals.lean).
  GIVEN WITH THE SEED: the statements are not yours to turn. If you find one false, say at which input.
  Laid BY PROGRAM, IN A SANDBOX (cutbox-rows.mjs): the forced cells as the released guide's own fill.sh prints them over the translation bb3f6ae62f17f3a2… (all of the seat's roots in one cut). By AI agents, Wed Nov 11 2026. No macro, syntax, notation, axiom, sorry.
-/
import Derived.Test.Qxb6604610aFmtChecked
import GoSem.Claim
import GoSem.ClaimJoined
import GoSem.ClaimMapViews
import Derived.JoinedTies
import Derived.KernelRfl
namespace Go.Proofs.Qxb6604610aFmt
/- THE CELL 'sum', in the pinned program and in every row, IS THE sha256 OF THE DUMP (.gsa) THAT Qxb6604610aFmtProg.lean LOADS. Nothing in Lean hashes anything: it is a label: what it is worth is what the hold of that sum in a sandbox is worth. -/
noncomputable def Tryf.pinned : Pinned := { name := "qxb6604610afmt", sum := "bb3f6ae62f17f3a200406c276ba7c801509e32368e67a782ad785203540737fa", checked := Tryf.checked }
namespace Rows
def none {H : Type} : Left H := { results := [], args := [] }

/-- 'zzlaws_internal_reload_b1.FnOpaque8Exact': WHATEVER THE INPUT: true; the input reads as it did. -/
def fnOpaque8ExactSpec : ChangeSpec := { name := "fnOpaque8Exact", fn := fun _ => fun
  | [d] => { results := [.lit (.bool true)], args := [d] }
  | _ => none }
def fnOpaque8ExactRow : OpenClaim := { program := "qxb6604610afmt", sum := "bb3f6ae62f17f3a200406c276ba7c801509e32368e67a782ad785203540737fa", func := "example.com/treeline/treeline/zzlaws_internal_reload_b1.FnOpaque8Exact", spec := "fnOpaque8Exact", stops := ["fmt.Sprintf"], inPlace := ["fmt.Sprintf"], unfollowed := true, recurses := true, apart := false }
/-- NO THEOREM (fmt's text is open here; it may be false): for the released tool's asking of the row's closed facts alone. THE STATEMENT IS 'FnOpaque8ExactToldSaid' (Qxb6604610aFmtCards.lean). -/
def FnOpaque8ExactFormAsk : Prop := fnOpaque8ExactRow.holds Tryf.pinned (OpenSpec.ofChange fnOpaque8ExactSpec)

/-- ITS FALSE NEIGHBOUR: 'it returns false'. Refute it at one input. -/
def fnOpaque8ExactWrong : ChangeSpec := { name := "fnOpaque8Exact", fn := fun _ => fun
  | [d] => { results := [.lit (.bool false)], args := [d] }
  | _ => none }
def FnOpaque8ExactWrongFormAsk : Prop := fnOpaque8ExactRow.holds Tryf.pinned (OpenSpec.ofChange fnOpaque8ExactWrong)

/-- 'zzlaws_internal_reload_b1.FnOpaque8RoundTrip': WHATEVER THE INPUT: true; the input reads as it did. -/
def fnOpaque8RoundTripSpec : ChangeSpec := { name := "fnOpaque8RoundTrip", fn := fun _ => fun
  | [d1, d2] => { results := [.lit (.bool true)], args := [d1, d2] }
  | _ => none }
def fnOpaque8RoundTripRow : OpenClaim := { program := "qxb6604610afmt", sum := "bb3f6ae62f17f3a200406c276ba7c801509e32368e67a782ad785203540737fa", func := "example.com/treeline/treeline/zzlaws_internal_reload_b1.FnOpaque8RoundTrip", spec := "fnOpaque8RoundTrip", stops := ["fmt.Sprintf"], inPlace := ["fmt.Sprintf"], unfollowed := true, recurses := true, apart := false }
/-- NO THEOREM (fmt's text is open here; it may be false): for the released tool's asking of the row's closed facts alone. THE STATEMENT IS 'FnOpaque8RoundTripToldSaid' (Qxb6604610aFmtCards.lean). -/
def FnOpaque8RoundTripFormAsk : Prop := fnOpaque8RoundTripRow.holds Tryf.pinned (OpenSpec.ofChange fnOpaque8RoundTripSpec)

/-- ITS FALSE NEIGHBOUR: 'it returns false'. Refute it at one input. -/
def fnOpaque8RoundTripWrong : ChangeSpec := { name := "fnOpaque8RoundTrip", fn := fun _ => fun
  | [d1, d2] => { results := [.lit (.bool false)], args := [d1, d2] }
  | _ => none }
def FnOpaque8RoundTripWrongFormAsk : Prop := fnOpaque8RoundTripRow.holds Tryf.pinned (OpenSpec.ofChange fnOpaque8RoundTripWrong)

/-- 'zzlaws_internal_reload_b1.FnFailEndsReading': WHATEVER THE INPUT: true; the input reads as it did. -/
def fnFailEndsReadingSpec : ChangeSpec := { name := "fnFailEndsReading", fn := fun _ => fun
  | [d1, d2, d3, d4, d5] => { results := [.lit (.bool true)], args := [d1, d2, d3, d4, d5] }
  | _ => none }
def fnFailEndsReadingRow : OpenClaim := { program := "qxb6604610afmt", sum := "bb3f6ae62f17f3a200406c276ba7c801509e32368e67a782ad785203540737fa", func := "example.com/treeline/treeline/zzlaws_internal_reload_b1.FnFailEndsReading", spec := "fnFailEndsReading", stops := ["fmt.Sprintf"], inPlace := ["fmt.Sprintf"], unfollowed := true, recurses := true, named := ["encoding/binary.BigEndian"], apart := false }
/-- NO THEOREM (fmt's text is open here; it may be false): for the released tool's asking of the row's closed facts alone. THE STATEMENT IS 'FnFailEndsReadingToldSaid' (Qxb6604610aFmtCards.lean). -/
def FnFailEndsReadingFormAsk : Prop := fnFailEndsReadingRow.holds Tryf.pinned (OpenSpec.ofChange fnFailEndsReadingSpec)

/-- ITS FALSE NEIGHBOUR: 'it returns false'. Refute it at one input. -/
def fnFailEndsReadingWrong : ChangeSpec := { name := "fnFailEndsReading", fn := fun _ => fun
  | [d1, d2, d3, d4, d5] => { results := [.lit (.bool false)], args := [d1, d2, d3, d4, d5] }
  | _ => none }
def FnFailEndsReadingWrongFormAsk : Prop := fnFailEndsReadingRow.holds Tryf.pinned (OpenSpec.ofChange fnFailEndsReadingWrong)

/-- 'zzlaws_internal_reload_b1.FnParseStoreAnsExact': WHATEVER THE INPUT: true; the input reads as it did. -/
def fnParseStoreAnsExactSpec : ChangeSpec := { name := "fnParseStoreAnsExact", fn := fun _ => fun
  | [d1, d2] => { results := [.lit (.bool true)], args := [d1, d2] }
  | _ => none }
def fnParseStoreAnsExactRow : OpenClaim := { program := "qxb6604610afmt", sum := "bb3f6ae62f17f3a200406c276ba7c801509e32368e67a782ad785203540737fa", func := "example.com/treeline/treeline/zzlaws_internal_reload_b1.FnParseStoreAnsExact", spec := "fnParseStoreAnsExact", stops := ["fmt.Sprintf"], inPlace := ["fmt.Sprintf"], unfollowed := true, recurses := true, named := ["encoding/binary.BigEndian"], apart := false }
/-- NO THEOREM (fmt's text is open here; it may be false): for the released tool's asking of the row's closed facts alone. THE STATEMENT IS 'FnParseStoreAnsExactToldSaid' (Qxb6604610aFmtCards.lean). -/
def FnParseStoreAnsExactFormAsk : Prop := fnParseStoreAnsExactRow.holds Tryf.pinned (OpenSpec.ofChange fnParseStoreAnsExactSpec)

/-- ITS FALSE NEIGHBOUR: 'it returns false'. Refute it at one input. -/
def fnParseStoreAnsExactWrong : ChangeSpec := { name := "fnParseStoreAnsExact", fn := fun _ => fun
  | [d1, d2] => { results := [.lit (.bool false)], args := [d1, d2] }
  | _ => none }
def FnParseStoreAnsExactWrongFormAsk : Prop := fnParseStoreAnsExactRow.holds Tryf.pinned (OpenSpec.ofChange fnParseStoreAnsExactWrong)

/-- 'zzlaws_internal_reload_b1.FnParseStoreAnsRoundTrip': WHATEVER THE INPUT: true; the input reads as it did. -/
def fnParseStoreAnsRoundTripSpec : ChangeSpec := { name := "fnParseStoreAnsRoundTrip", fn := fun _ => fun
  | [d1, d2, d3, d4, d5] => { results := [.lit (.bool true)], args := [d1, d2, d3, d4, d5] }
  | _ => none }
def fnParseStoreAnsRoundTripRow : OpenClaim := { program := "qxb6604610afmt", sum := "bb3f6ae62f17f3a200406c276ba7c801509e32368e67a782ad785203540737fa", func := "example.com/treeline/treeline/zzlaws_internal_reload_b1.FnParseStoreAnsRoundTrip", spec := "fnParseStoreAnsRoundTrip", stops := ["fmt.Sprintf"], inPlace := ["fmt.Sprintf"], unfollowed := true, recurses := true, named := ["encoding/binary.BigEndian"], apart := false }
/-- NO THEOREM (fmt's text is open here; it may be false): for the released tool's asking of the row's closed facts alone. THE STATEMENT IS 'FnParseStoreAnsRoundTripToldSaid' (Qxb6604610aFmtCards.lean). -/
def FnParseStoreAnsRoundTripFormAsk : Prop := fnParseStoreAnsRoundTripRow.holds Tryf.pinned (OpenSpec.ofChange fnParseStoreAnsRoundTripSpec)

/-- ITS FALSE NEIGHBOUR: 'it returns false'. Refute it at one input. -/
def fnParseStoreAnsRoundTripWrong : ChangeSpec := { name := "fnParseStoreAnsRoundTrip", fn := fun _ => fun
  | [d1, d2, d3, d4, d5] => { results := [.lit (.bool false)], args := [d1, d2, d3, d4, d5] }
  | _ => none }
def FnParseStoreAnsRoundTripWrongFormAsk : Prop := fnParseStoreAnsRoundTripRow.holds Tryf.pinned (OpenSpec.ofChange fnParseStoreAnsRoundTripWrong)

end Rows
end Go.Proofs.Qxb6604610aFmt
