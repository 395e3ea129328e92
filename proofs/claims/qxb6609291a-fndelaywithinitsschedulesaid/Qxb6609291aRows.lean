/-
  No cell of these rows narrows 'for every input' (looked for: loops, veiled, ifaces, maps, wideKeys, modest, calm, conditions, laid).
  DERIVED. THE GIVEN ROWS OF THIS SEAT. 4 by the template 'for every input the law returns true; each argument reads behind the call as it read before'; 0 by the template 'total and deterministic' (their statements: Qxb6609291aTotals.lean).
  GIVEN WITH THE SEED: the statements are not yours to turn. If you find one false, say at which input.
  Laid BY PROGRAM, IN A SANDBOX (cutbox-rows.mjs): the forced cells as the released guide's own fill.sh prints them over the translation b0cc96663d83ba0f… (all of the seat's roots in one cut). By AI agents, Wed Nov 11 2026. No macro, syntax, notation, axiom, sorry.
-/
import Derived.Test.Qxb6609291aChecked
import GoSem.Claim
import GoSem.ClaimJoined
import GoSem.ClaimMapViews
import Derived.JoinedTies
import Derived.KernelRfl
namespace Go.Proofs.Qxb6609291a
/- THE CELL 'sum', in the pinned program and in every row, IS THE sha256 OF THE DUMP (.gsa) THAT Qxb6609291aProg.lean LOADS. Nothing in Lean hashes anything: it is a label: what it is worth is what the hold of that sum in a sandbox is worth. -/
noncomputable def Try.pinned : Pinned := { name := "qxb6609291a", sum := "b0cc96663d83ba0f71e3270f4a94ee50d34e110edb4aaec5a2dc7e291adca671", checked := Try.checked }
namespace Rows
def none {H : Type} : Left H := { results := [], args := [] }

/-- 'zzlaws_root_b1.FnClosedReportsReadyReceive': WHATEVER THE INPUT: true; the input reads as it did. -/
def fnClosedReportsReadyReceiveSpec : ChangeSpec := { name := "fnClosedReportsReadyReceive", fn := fun _ => fun
  | [d1, d2, d3] => { results := [.lit (.bool true)], args := [d1, d2, d3] }
  | _ => none }
def fnClosedReportsReadyReceiveRow : OpenClaim := { program := "qxb6609291a", sum := "b0cc96663d83ba0f71e3270f4a94ee50d34e110edb4aaec5a2dc7e291adca671", func := "example.com/demora/demora/zzlaws_root_b1.FnClosedReportsReadyReceive", spec := "fnClosedReportsReadyReceive", apart := false }
def FnClosedReportsReadyReceiveSaid : Prop := fnClosedReportsReadyReceiveRow.holds Try.pinned (OpenSpec.ofChange fnClosedReportsReadyReceiveSpec)

/-- ITS FALSE NEIGHBOUR: 'it returns false'. Refute it at one input. -/
def fnClosedReportsReadyReceiveWrong : ChangeSpec := { name := "fnClosedReportsReadyReceive", fn := fun _ => fun
  | [d1, d2, d3] => { results := [.lit (.bool false)], args := [d1, d2, d3] }
  | _ => none }
def FnClosedReportsReadyReceiveWrongFalsely : Prop := fnClosedReportsReadyReceiveRow.holds Try.pinned (OpenSpec.ofChange fnClosedReportsReadyReceiveWrong)

/-- 'zzlaws_root_b1.FnClosedDrainsPendingNotClosedness': WHATEVER THE INPUT: true; the input reads as it did. -/
def fnClosedDrainsPendingNotClosednessSpec : ChangeSpec := { name := "fnClosedDrainsPendingNotClosedness", fn := fun _ => fun
  | [d1, d2, d3] => { results := [.lit (.bool true)], args := [d1, d2, d3] }
  | _ => none }
def fnClosedDrainsPendingNotClosednessRow : OpenClaim := { program := "qxb6609291a", sum := "b0cc96663d83ba0f71e3270f4a94ee50d34e110edb4aaec5a2dc7e291adca671", func := "example.com/demora/demora/zzlaws_root_b1.FnClosedDrainsPendingNotClosedness", spec := "fnClosedDrainsPendingNotClosedness", apart := false }
def FnClosedDrainsPendingNotClosednessSaid : Prop := fnClosedDrainsPendingNotClosednessRow.holds Try.pinned (OpenSpec.ofChange fnClosedDrainsPendingNotClosednessSpec)

/-- ITS FALSE NEIGHBOUR: 'it returns false'. Refute it at one input. -/
def fnClosedDrainsPendingNotClosednessWrong : ChangeSpec := { name := "fnClosedDrainsPendingNotClosedness", fn := fun _ => fun
  | [d1, d2, d3] => { results := [.lit (.bool false)], args := [d1, d2, d3] }
  | _ => none }
def FnClosedDrainsPendingNotClosednessWrongFalsely : Prop := fnClosedDrainsPendingNotClosednessRow.holds Try.pinned (OpenSpec.ofChange fnClosedDrainsPendingNotClosednessWrong)

/-- 'zzlaws_root_b1.FnDelayWithinItsSchedule': WHATEVER THE INPUT: true; the input reads as it did. -/
def fnDelayWithinItsScheduleSpec : ChangeSpec := { name := "fnDelayWithinItsSchedule", fn := fun _ => fun
  | [d1, d2, d3, d4, d5, d6, d7] => { results := [.lit (.bool true)], args := [d1, d2, d3, d4, d5, d6, d7] }
  | _ => none }
def fnDelayWithinItsScheduleRow : OpenClaim := { program := "qxb6609291a", sum := "b0cc96663d83ba0f71e3270f4a94ee50d34e110edb4aaec5a2dc7e291adca671", func := "example.com/demora/demora/zzlaws_root_b1.FnDelayWithinItsSchedule", spec := "fnDelayWithinItsSchedule", unfollowed := true, recurses := true, apart := false }
def FnDelayWithinItsScheduleSaid : Prop := fnDelayWithinItsScheduleRow.holds Try.pinned (OpenSpec.ofChange fnDelayWithinItsScheduleSpec)

/-- ITS FALSE NEIGHBOUR: 'it returns false'. Refute it at one input. -/
def fnDelayWithinItsScheduleWrong : ChangeSpec := { name := "fnDelayWithinItsSchedule", fn := fun _ => fun
  | [d1, d2, d3, d4, d5, d6, d7] => { results := [.lit (.bool false)], args := [d1, d2, d3, d4, d5, d6, d7] }
  | _ => none }
def FnDelayWithinItsScheduleWrongFalsely : Prop := fnDelayWithinItsScheduleRow.holds Try.pinned (OpenSpec.ofChange fnDelayWithinItsScheduleWrong)

/-- 'zzlaws_root_b1.FnDelayReadsPrevOnlyWhereDecorrelated': WHATEVER THE INPUT: true; the input reads as it did. -/
def fnDelayReadsPrevOnlyWhereDecorrelatedSpec : ChangeSpec := { name := "fnDelayReadsPrevOnlyWhereDecorrelated", fn := fun _ => fun
  | [d1, d2, d3, d4, d5, d6, d7] => { results := [.lit (.bool true)], args := [d1, d2, d3, d4, d5, d6, d7] }
  | _ => none }
def fnDelayReadsPrevOnlyWhereDecorrelatedRow : OpenClaim := { program := "qxb6609291a", sum := "b0cc96663d83ba0f71e3270f4a94ee50d34e110edb4aaec5a2dc7e291adca671", func := "example.com/demora/demora/zzlaws_root_b1.FnDelayReadsPrevOnlyWhereDecorrelated", spec := "fnDelayReadsPrevOnlyWhereDecorrelated", unfollowed := true, recurses := true, apart := false }
def FnDelayReadsPrevOnlyWhereDecorrelatedSaid : Prop := fnDelayReadsPrevOnlyWhereDecorrelatedRow.holds Try.pinned (OpenSpec.ofChange fnDelayReadsPrevOnlyWhereDecorrelatedSpec)

/-- ITS FALSE NEIGHBOUR: 'it returns false'. Refute it at one input. -/
def fnDelayReadsPrevOnlyWhereDecorrelatedWrong : ChangeSpec := { name := "fnDelayReadsPrevOnlyWhereDecorrelated", fn := fun _ => fun
  | [d1, d2, d3, d4, d5, d6, d7] => { results := [.lit (.bool false)], args := [d1, d2, d3, d4, d5, d6, d7] }
  | _ => none }
def FnDelayReadsPrevOnlyWhereDecorrelatedWrongFalsely : Prop := fnDelayReadsPrevOnlyWhereDecorrelatedRow.holds Try.pinned (OpenSpec.ofChange fnDelayReadsPrevOnlyWhereDecorrelatedWrong)

end Rows
end Go.Proofs.Qxb6609291a
