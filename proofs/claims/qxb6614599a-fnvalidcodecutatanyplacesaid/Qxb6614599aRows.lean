/-
  No cell of these rows narrows 'for every input' (looked for: loops, veiled, ifaces, maps, wideKeys, modest, calm, conditions, laid).
  DERIVED. THE GIVEN ROWS OF THIS SEAT. 2 by the template 'for every input the law returns true; each argument reads behind the call as it read before'; 0 by the template 'total and deterministic' (their statements: Qxb6614599aTotals.lean).
  GIVEN WITH THE SEED: the statements are not yours to turn. If you find one false, say at which input.
  Laid BY PROGRAM, IN A SANDBOX (cutbox-rows.mjs): the forced cells as the released guide's own fill.sh prints them over the translation e7d678d2d22d9e08… (all of the seat's roots in one cut). By AI agents, Wed Nov 11 2026. No macro, syntax, notation, axiom, sorry.
-/
import Derived.Test.Qxb6614599aChecked
import GoSem.Claim
import GoSem.ClaimJoined
import GoSem.ClaimMapViews
import Derived.JoinedTies
import Derived.KernelRfl
namespace Go.Proofs.Qxb6614599a
/- THE CELL 'sum', in the pinned program and in every row, IS THE sha256 OF THE DUMP (.gsa) THAT Qxb6614599aProg.lean LOADS. Nothing in Lean hashes anything: it is a label: what it is worth is what the hold of that sum in a sandbox is worth. -/
noncomputable def Try.pinned : Pinned := { name := "qxb6614599a", sum := "e7d678d2d22d9e08c463955e949d36f3cb84c09a5331a09de7296b895bc43d1f", checked := Try.checked }
namespace Rows
def none {H : Type} : Left H := { results := [], args := [] }

/-- 'zzlaws_internal_terms_b1.FnValidCodeCutAtAnyPlace': WHATEVER THE INPUT: true; the input reads as it did. -/
def fnValidCodeCutAtAnyPlaceSpec : ChangeSpec := { name := "fnValidCodeCutAtAnyPlace", fn := fun _ => fun
  | [d1, d2, d3] => { results := [.lit (.bool true)], args := [d1, d2, d3] }
  | _ => none }
def fnValidCodeCutAtAnyPlaceRow : OpenClaim := { program := "qxb6614599a", sum := "e7d678d2d22d9e08c463955e949d36f3cb84c09a5331a09de7296b895bc43d1f", func := "example.com/zhaomu/zhaomu/zzlaws_internal_terms_b1.FnValidCodeCutAtAnyPlace", spec := "fnValidCodeCutAtAnyPlace", unfollowed := true, recurses := true, apart := false }
def FnValidCodeCutAtAnyPlaceSaid : Prop := fnValidCodeCutAtAnyPlaceRow.holds Try.pinned (OpenSpec.ofChange fnValidCodeCutAtAnyPlaceSpec)

/-- ITS FALSE NEIGHBOUR: 'it returns false'. Refute it at one input. -/
def fnValidCodeCutAtAnyPlaceWrong : ChangeSpec := { name := "fnValidCodeCutAtAnyPlace", fn := fun _ => fun
  | [d1, d2, d3] => { results := [.lit (.bool false)], args := [d1, d2, d3] }
  | _ => none }
def FnValidCodeCutAtAnyPlaceWrongFalsely : Prop := fnValidCodeCutAtAnyPlaceRow.holds Try.pinned (OpenSpec.ofChange fnValidCodeCutAtAnyPlaceWrong)

/-- 'zzlaws_internal_terms_b1.FnValidCodeLengthIsTheOnlyCeiling': WHATEVER THE INPUT: true; the input reads as it did. -/
def fnValidCodeLengthIsTheOnlyCeilingSpec : ChangeSpec := { name := "fnValidCodeLengthIsTheOnlyCeiling", fn := fun _ => fun
  | [d1, d2] => { results := [.lit (.bool true)], args := [d1, d2] }
  | _ => none }
def fnValidCodeLengthIsTheOnlyCeilingRow : OpenClaim := { program := "qxb6614599a", sum := "e7d678d2d22d9e08c463955e949d36f3cb84c09a5331a09de7296b895bc43d1f", func := "example.com/zhaomu/zhaomu/zzlaws_internal_terms_b1.FnValidCodeLengthIsTheOnlyCeiling", spec := "fnValidCodeLengthIsTheOnlyCeiling", unfollowed := true, recurses := true, apart := false }
def FnValidCodeLengthIsTheOnlyCeilingSaid : Prop := fnValidCodeLengthIsTheOnlyCeilingRow.holds Try.pinned (OpenSpec.ofChange fnValidCodeLengthIsTheOnlyCeilingSpec)

/-- ITS FALSE NEIGHBOUR: 'it returns false'. Refute it at one input. -/
def fnValidCodeLengthIsTheOnlyCeilingWrong : ChangeSpec := { name := "fnValidCodeLengthIsTheOnlyCeiling", fn := fun _ => fun
  | [d1, d2] => { results := [.lit (.bool false)], args := [d1, d2] }
  | _ => none }
def FnValidCodeLengthIsTheOnlyCeilingWrongFalsely : Prop := fnValidCodeLengthIsTheOnlyCeilingRow.holds Try.pinned (OpenSpec.ofChange fnValidCodeLengthIsTheOnlyCeilingWrong)

end Rows
end Go.Proofs.Qxb6614599a
