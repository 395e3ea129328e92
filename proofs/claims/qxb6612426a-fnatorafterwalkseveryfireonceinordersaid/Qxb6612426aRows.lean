/-
  No cell of these rows narrows 'for every input' (looked for: loops, veiled, ifaces, maps, wideKeys, modest, calm, conditions, laid).
  DERIVED. THE GIVEN ROWS OF THIS SEAT. 2 by the template 'for every input the law returns true; each argument reads behind the call as it read before'; 0 by the template 'total and deterministic' (their statements: Qxb6612426aTotals.lean).
  GIVEN WITH THE SEED: the statements are not yours to turn. If you find one false, say at which input.
  Laid BY PROGRAM, IN A SANDBOX (cutbox-rows.mjs): the forced cells as the released guide's own fill.sh prints them over the translation 3d9ebd47bccfa18a… (all of the seat's roots in one cut). By AI agents, Wed Nov 11 2026. No macro, syntax, notation, axiom, sorry.
-/
import Derived.Test.Qxb6612426aChecked
import GoSem.Claim
import GoSem.ClaimJoined
import GoSem.ClaimMapViews
import Derived.JoinedTies
import Derived.KernelRfl
namespace Go.Proofs.Qxb6612426a
/- THE CELL 'sum', in the pinned program and in every row, IS THE sha256 OF THE DUMP (.gsa) THAT Qxb6612426aProg.lean LOADS. Nothing in Lean hashes anything: it is a label: what it is worth is what the hold of that sum in a sandbox is worth. -/
noncomputable def Try.pinned : Pinned := { name := "qxb6612426a", sum := "3d9ebd47bccfa18aabfa57ffb4c60622e4982832e50d3f074b7dd973a9353996", checked := Try.checked }
namespace Rows
def none {H : Type} : Left H := { results := [], args := [] }

/-- 'zzlaws_internal_schedules_b1.FnAtOrAfterIsLeastFireAtOrAfter': WHATEVER THE INPUT: true; the input reads as it did. -/
def fnAtOrAfterIsLeastFireAtOrAfterSpec : ChangeSpec := { name := "fnAtOrAfterIsLeastFireAtOrAfter", fn := fun _ => fun
  | [d1, d2] => { results := [.lit (.bool true)], args := [d1, d2] }
  | _ => none }
def fnAtOrAfterIsLeastFireAtOrAfterRow : OpenClaim := { program := "qxb6612426a", sum := "3d9ebd47bccfa18aabfa57ffb4c60622e4982832e50d3f074b7dd973a9353996", func := "example.com/tidewheel/tidewheel/zzlaws_internal_schedules_b1.FnAtOrAfterIsLeastFireAtOrAfter", spec := "fnAtOrAfterIsLeastFireAtOrAfter", unfollowed := true, recurses := true, apart := false }
def FnAtOrAfterIsLeastFireAtOrAfterSaid : Prop := fnAtOrAfterIsLeastFireAtOrAfterRow.holds Try.pinned (OpenSpec.ofChange fnAtOrAfterIsLeastFireAtOrAfterSpec)

/-- ITS FALSE NEIGHBOUR: 'it returns false'. Refute it at one input. -/
def fnAtOrAfterIsLeastFireAtOrAfterWrong : ChangeSpec := { name := "fnAtOrAfterIsLeastFireAtOrAfter", fn := fun _ => fun
  | [d1, d2] => { results := [.lit (.bool false)], args := [d1, d2] }
  | _ => none }
def FnAtOrAfterIsLeastFireAtOrAfterWrongFalsely : Prop := fnAtOrAfterIsLeastFireAtOrAfterRow.holds Try.pinned (OpenSpec.ofChange fnAtOrAfterIsLeastFireAtOrAfterWrong)

/-- 'zzlaws_internal_schedules_b1.FnAtOrAfterWalksEveryFireOnceInOrder': WHATEVER THE INPUT: true; the input reads as it did. -/
def fnAtOrAfterWalksEveryFireOnceInOrderSpec : ChangeSpec := { name := "fnAtOrAfterWalksEveryFireOnceInOrder", fn := fun _ => fun
  | [d1, d2] => { results := [.lit (.bool true)], args := [d1, d2] }
  | _ => none }
def fnAtOrAfterWalksEveryFireOnceInOrderRow : OpenClaim := { program := "qxb6612426a", sum := "3d9ebd47bccfa18aabfa57ffb4c60622e4982832e50d3f074b7dd973a9353996", func := "example.com/tidewheel/tidewheel/zzlaws_internal_schedules_b1.FnAtOrAfterWalksEveryFireOnceInOrder", spec := "fnAtOrAfterWalksEveryFireOnceInOrder", unfollowed := true, recurses := true, apart := false }
def FnAtOrAfterWalksEveryFireOnceInOrderSaid : Prop := fnAtOrAfterWalksEveryFireOnceInOrderRow.holds Try.pinned (OpenSpec.ofChange fnAtOrAfterWalksEveryFireOnceInOrderSpec)

/-- ITS FALSE NEIGHBOUR: 'it returns false'. Refute it at one input. -/
def fnAtOrAfterWalksEveryFireOnceInOrderWrong : ChangeSpec := { name := "fnAtOrAfterWalksEveryFireOnceInOrder", fn := fun _ => fun
  | [d1, d2] => { results := [.lit (.bool false)], args := [d1, d2] }
  | _ => none }
def FnAtOrAfterWalksEveryFireOnceInOrderWrongFalsely : Prop := fnAtOrAfterWalksEveryFireOnceInOrderRow.holds Try.pinned (OpenSpec.ofChange fnAtOrAfterWalksEveryFireOnceInOrderWrong)

end Rows
end Go.Proofs.Qxb6612426a
