/-
  No cell of these rows narrows 'for every input' (looked for: loops, veiled, ifaces, maps, wideKeys, modest, calm, conditions, laid).
  DERIVED. THE GIVEN ROWS OF THIS SEAT. 1 by the template 'for every input the law returns true; each argument reads behind the call as it read before'; 0 by the template 'total and deterministic' (their statements: Qxb6614461aTotals.lean).
  GIVEN WITH THE SEED: the statements are not yours to turn. If you find one false, say at which input.
  Laid BY PROGRAM, IN A SANDBOX (cutbox-rows.mjs): the forced cells as the released guide's own fill.sh prints them over the translation 143c822cf8686594… (all of the seat's roots in one cut). By AI agents, Wed Nov 11 2026. No macro, syntax, notation, axiom, sorry.
-/
import Derived.Test.Qxb6614461aChecked
import GoSem.Claim
import GoSem.ClaimJoined
import GoSem.ClaimMapViews
import Derived.JoinedTies
import Derived.KernelRfl
namespace Go.Proofs.Qxb6614461a
/- THE CELL 'sum', in the pinned program and in every row, IS THE sha256 OF THE DUMP (.gsa) THAT Qxb6614461aProg.lean LOADS. Nothing in Lean hashes anything: it is a label: what it is worth is what the hold of that sum in a sandbox is worth. -/
noncomputable def Try.pinned : Pinned := { name := "qxb6614461a", sum := "143c822cf8686594bc4c28aa6ef8e1354114207424240f157bf7a47ac265c409", checked := Try.checked }
namespace Rows
def none {H : Type} : Left H := { results := [], args := [] }

/-- 'zzlaws_position_b1.FnNearestSeekingItsOwnAnswerFindsItAgain': WHATEVER THE INPUT: true; the input reads as it did. -/
def fnNearestSeekingItsOwnAnswerFindsItAgainSpec : ChangeSpec := { name := "fnNearestSeekingItsOwnAnswerFindsItAgain", fn := fun _ => fun
  | [d1, d2, d3, d4] => { results := [.lit (.bool true)], args := [d1, d2, d3, d4] }
  | _ => none }
def fnNearestSeekingItsOwnAnswerFindsItAgainRow : OpenClaim := { program := "qxb6614461a", sum := "143c822cf8686594bc4c28aa6ef8e1354114207424240f157bf7a47ac265c409", func := "example.com/forerun/forerun/zzlaws_position_b1.FnNearestSeekingItsOwnAnswerFindsItAgain", spec := "fnNearestSeekingItsOwnAnswerFindsItAgain", unfollowed := true, recurses := true, apart := false }
def FnNearestSeekingItsOwnAnswerFindsItAgainSaid : Prop := fnNearestSeekingItsOwnAnswerFindsItAgainRow.holds Try.pinned (OpenSpec.ofChange fnNearestSeekingItsOwnAnswerFindsItAgainSpec)

/-- ITS FALSE NEIGHBOUR: 'it returns false'. Refute it at one input. -/
def fnNearestSeekingItsOwnAnswerFindsItAgainWrong : ChangeSpec := { name := "fnNearestSeekingItsOwnAnswerFindsItAgain", fn := fun _ => fun
  | [d1, d2, d3, d4] => { results := [.lit (.bool false)], args := [d1, d2, d3, d4] }
  | _ => none }
def FnNearestSeekingItsOwnAnswerFindsItAgainWrongFalsely : Prop := fnNearestSeekingItsOwnAnswerFindsItAgainRow.holds Try.pinned (OpenSpec.ofChange fnNearestSeekingItsOwnAnswerFindsItAgainWrong)

end Rows
end Go.Proofs.Qxb6614461a
