/-
  No cell of these rows narrows 'for every input' (looked for: loops, veiled, ifaces, maps, wideKeys, modest, calm, conditions, laid).
  DERIVED. THE GIVEN ROWS OF THIS SEAT. 5 by the template 'for every input the law returns true; each argument reads behind the call as it read before'; 0 by the template 'total and deterministic' (their statements: Qxb6604485aTotals.lean).
  GIVEN WITH THE SEED: the statements are not yours to turn. If you find one false, say at which input.
  Laid BY PROGRAM, IN A SANDBOX (cutbox-rows.mjs): the forced cells as the released guide's own fill.sh prints them over the translation 4261ddc7c7c93bb4… (all of the seat's roots in one cut). By AI agents, Wed Nov 11 2026. No macro, syntax, notation, axiom, sorry.
-/
import Derived.Test.Qxb6604485aChecked
import GoSem.Claim
import GoSem.ClaimJoined
import GoSem.ClaimMapViews
import Derived.JoinedTies
import Derived.KernelRfl
namespace Go.Proofs.Qxb6604485a
/- THE CELL 'sum', in the pinned program and in every row, IS THE sha256 OF THE DUMP (.gsa) THAT Qxb6604485aProg.lean LOADS. Nothing in Lean hashes anything: it is a label: what it is worth is what the hold of that sum in a sandbox is worth. -/
noncomputable def Try.pinned : Pinned := { name := "qxb6604485a", sum := "4261ddc7c7c93bb400fb0fc37f33fbe2e5e3aba1501f3ba7667f925f29c45575", checked := Try.checked }
namespace Rows
def none {H : Type} : Left H := { results := [], args := [] }

/-- 'zzlaws_schedule_b1.FnPartEmptyMarksAbsence': WHATEVER THE INPUT: true; the input reads as it did. -/
def fnPartEmptyMarksAbsenceSpec : ChangeSpec := { name := "fnPartEmptyMarksAbsence", fn := fun _ => fun
  | [d1, d2, d3] => { results := [.lit (.bool true)], args := [d1, d2, d3] }
  | _ => none }
def fnPartEmptyMarksAbsenceRow : OpenClaim := { program := "qxb6604485a", sum := "4261ddc7c7c93bb400fb0fc37f33fbe2e5e3aba1501f3ba7667f925f29c45575", func := "example.com/fairhold/fairhold/zzlaws_schedule_b1.FnPartEmptyMarksAbsence", spec := "fnPartEmptyMarksAbsence", unfollowed := true, recurses := true, apart := false }
def FnPartEmptyMarksAbsenceSaid : Prop := fnPartEmptyMarksAbsenceRow.holds Try.pinned (OpenSpec.ofChange fnPartEmptyMarksAbsenceSpec)

/-- ITS FALSE NEIGHBOUR: 'it returns false'. Refute it at one input. -/
def fnPartEmptyMarksAbsenceWrong : ChangeSpec := { name := "fnPartEmptyMarksAbsence", fn := fun _ => fun
  | [d1, d2, d3] => { results := [.lit (.bool false)], args := [d1, d2, d3] }
  | _ => none }
def FnPartEmptyMarksAbsenceWrongFalsely : Prop := fnPartEmptyMarksAbsenceRow.holds Try.pinned (OpenSpec.ofChange fnPartEmptyMarksAbsenceWrong)

/-- 'zzlaws_schedule_b1.FnComesBeforeAskedFirstThenByIndex': WHATEVER THE INPUT: true; the input reads as it did. -/
def fnComesBeforeAskedFirstThenByIndexSpec : ChangeSpec := { name := "fnComesBeforeAskedFirstThenByIndex", fn := fun _ => fun
  | [d1, d2, d3, d4, d5] => { results := [.lit (.bool true)], args := [d1, d2, d3, d4, d5] }
  | _ => none }
def fnComesBeforeAskedFirstThenByIndexRow : OpenClaim := { program := "qxb6604485a", sum := "4261ddc7c7c93bb400fb0fc37f33fbe2e5e3aba1501f3ba7667f925f29c45575", func := "example.com/fairhold/fairhold/zzlaws_schedule_b1.FnComesBeforeAskedFirstThenByIndex", spec := "fnComesBeforeAskedFirstThenByIndex", unfollowed := true, recurses := true, apart := false }
def FnComesBeforeAskedFirstThenByIndexSaid : Prop := fnComesBeforeAskedFirstThenByIndexRow.holds Try.pinned (OpenSpec.ofChange fnComesBeforeAskedFirstThenByIndexSpec)

/-- ITS FALSE NEIGHBOUR: 'it returns false'. Refute it at one input. -/
def fnComesBeforeAskedFirstThenByIndexWrong : ChangeSpec := { name := "fnComesBeforeAskedFirstThenByIndex", fn := fun _ => fun
  | [d1, d2, d3, d4, d5] => { results := [.lit (.bool false)], args := [d1, d2, d3, d4, d5] }
  | _ => none }
def FnComesBeforeAskedFirstThenByIndexWrongFalsely : Prop := fnComesBeforeAskedFirstThenByIndexRow.holds Try.pinned (OpenSpec.ofChange fnComesBeforeAskedFirstThenByIndexWrong)

/-- 'zzlaws_schedule_b1.FnComesBeforeIsStrictTotalOrder': WHATEVER THE INPUT: true; the input reads as it did. -/
def fnComesBeforeIsStrictTotalOrderSpec : ChangeSpec := { name := "fnComesBeforeIsStrictTotalOrder", fn := fun _ => fun
  | [d1, d2, d3, d4, d5] => { results := [.lit (.bool true)], args := [d1, d2, d3, d4, d5] }
  | _ => none }
def fnComesBeforeIsStrictTotalOrderRow : OpenClaim := { program := "qxb6604485a", sum := "4261ddc7c7c93bb400fb0fc37f33fbe2e5e3aba1501f3ba7667f925f29c45575", func := "example.com/fairhold/fairhold/zzlaws_schedule_b1.FnComesBeforeIsStrictTotalOrder", spec := "fnComesBeforeIsStrictTotalOrder", unfollowed := true, recurses := true, apart := false }
def FnComesBeforeIsStrictTotalOrderSaid : Prop := fnComesBeforeIsStrictTotalOrderRow.holds Try.pinned (OpenSpec.ofChange fnComesBeforeIsStrictTotalOrderSpec)

/-- ITS FALSE NEIGHBOUR: 'it returns false'. Refute it at one input. -/
def fnComesBeforeIsStrictTotalOrderWrong : ChangeSpec := { name := "fnComesBeforeIsStrictTotalOrder", fn := fun _ => fun
  | [d1, d2, d3, d4, d5] => { results := [.lit (.bool false)], args := [d1, d2, d3, d4, d5] }
  | _ => none }
def FnComesBeforeIsStrictTotalOrderWrongFalsely : Prop := fnComesBeforeIsStrictTotalOrderRow.holds Try.pinned (OpenSpec.ofChange fnComesBeforeIsStrictTotalOrderWrong)

/-- 'zzlaws_schedule_b1.FnRequeueMinRuntimesArePreemptAndReclaim': WHATEVER THE INPUT: true; the input reads as it did. -/
def fnRequeueMinRuntimesArePreemptAndReclaimSpec : ChangeSpec := { name := "fnRequeueMinRuntimesArePreemptAndReclaim", fn := fun _ => fun
  | [d1, d2, d3, d4, d5, d6, d7, d8] => { results := [.lit (.bool true)], args := [d1, d2, d3, d4, d5, d6, d7, d8] }
  | _ => none }
def fnRequeueMinRuntimesArePreemptAndReclaimRow : OpenClaim := { program := "qxb6604485a", sum := "4261ddc7c7c93bb400fb0fc37f33fbe2e5e3aba1501f3ba7667f925f29c45575", func := "example.com/fairhold/fairhold/zzlaws_schedule_b1.FnRequeueMinRuntimesArePreemptAndReclaim", spec := "fnRequeueMinRuntimesArePreemptAndReclaim", inPlace := ["internal/reflectlite.ValueOf", "internal/reflectlite.Swapper", "(internal/reflectlite.Value).Len"], unfollowed := true, recurses := true, apart := false }
def FnRequeueMinRuntimesArePreemptAndReclaimSaid : Prop := fnRequeueMinRuntimesArePreemptAndReclaimRow.holds Try.pinned (OpenSpec.ofChange fnRequeueMinRuntimesArePreemptAndReclaimSpec)

/-- ITS FALSE NEIGHBOUR: 'it returns false'. Refute it at one input. -/
def fnRequeueMinRuntimesArePreemptAndReclaimWrong : ChangeSpec := { name := "fnRequeueMinRuntimesArePreemptAndReclaim", fn := fun _ => fun
  | [d1, d2, d3, d4, d5, d6, d7, d8] => { results := [.lit (.bool false)], args := [d1, d2, d3, d4, d5, d6, d7, d8] }
  | _ => none }
def FnRequeueMinRuntimesArePreemptAndReclaimWrongFalsely : Prop := fnRequeueMinRuntimesArePreemptAndReclaimRow.holds Try.pinned (OpenSpec.ofChange fnRequeueMinRuntimesArePreemptAndReclaimWrong)

/-- 'zzlaws_schedule_b1.FnRequeueMinRuntimesAscendingCoverReclaim': WHATEVER THE INPUT: true; the input reads as it did. -/
def fnRequeueMinRuntimesAscendingCoverReclaimSpec : ChangeSpec := { name := "fnRequeueMinRuntimesAscendingCoverReclaim", fn := fun _ => fun
  | [d1, d2, d3, d4, d5, d6, d7, d8] => { results := [.lit (.bool true)], args := [d1, d2, d3, d4, d5, d6, d7, d8] }
  | _ => none }
def fnRequeueMinRuntimesAscendingCoverReclaimRow : OpenClaim := { program := "qxb6604485a", sum := "4261ddc7c7c93bb400fb0fc37f33fbe2e5e3aba1501f3ba7667f925f29c45575", func := "example.com/fairhold/fairhold/zzlaws_schedule_b1.FnRequeueMinRuntimesAscendingCoverReclaim", spec := "fnRequeueMinRuntimesAscendingCoverReclaim", inPlace := ["internal/reflectlite.ValueOf", "internal/reflectlite.Swapper", "(internal/reflectlite.Value).Len"], unfollowed := true, recurses := true, apart := false }
def FnRequeueMinRuntimesAscendingCoverReclaimSaid : Prop := fnRequeueMinRuntimesAscendingCoverReclaimRow.holds Try.pinned (OpenSpec.ofChange fnRequeueMinRuntimesAscendingCoverReclaimSpec)

/-- ITS FALSE NEIGHBOUR: 'it returns false'. Refute it at one input. -/
def fnRequeueMinRuntimesAscendingCoverReclaimWrong : ChangeSpec := { name := "fnRequeueMinRuntimesAscendingCoverReclaim", fn := fun _ => fun
  | [d1, d2, d3, d4, d5, d6, d7, d8] => { results := [.lit (.bool false)], args := [d1, d2, d3, d4, d5, d6, d7, d8] }
  | _ => none }
def FnRequeueMinRuntimesAscendingCoverReclaimWrongFalsely : Prop := fnRequeueMinRuntimesAscendingCoverReclaimRow.holds Try.pinned (OpenSpec.ofChange fnRequeueMinRuntimesAscendingCoverReclaimWrong)

end Rows
end Go.Proofs.Qxb6604485a
