/-
  No cell of these rows narrows 'for every input' (looked for: loops, veiled, ifaces, maps, wideKeys, modest, calm, conditions, laid).
  DERIVED. THE GIVEN ROWS OF THIS SEAT. 1 by the template 'for every input the law returns true; each argument reads behind the call as it read before'; 0 by the template 'total and deterministic' (their statements: Qxb6614586aTotals.lean).
  GIVEN WITH THE SEED: the statements are not yours to turn. If you find one false, say at which input.
  Laid BY PROGRAM, IN A SANDBOX (cutbox-rows.mjs): the forced cells as the released guide's own fill.sh prints them over the translation 14918c3db32b738c… (all of the seat's roots in one cut). By AI agents, Wed Nov 11 2026. No macro, syntax, notation, axiom, sorry.
-/
import Derived.Test.Qxb6614586aChecked
import GoSem.Claim
import GoSem.ClaimJoined
import GoSem.ClaimMapViews
import Derived.JoinedTies
import Derived.KernelRfl
namespace Go.Proofs.Qxb6614586a
/- THE CELL 'sum', in the pinned program and in every row, IS THE sha256 OF THE DUMP (.gsa) THAT Qxb6614586aProg.lean LOADS. Nothing in Lean hashes anything: it is a label: what it is worth is what the hold of that sum in a sandbox is worth. -/
noncomputable def Try.pinned : Pinned := { name := "qxb6614586a", sum := "14918c3db32b738c3df3f0265f72441320fc5de3140f093fc6be94294e4f4bc1", checked := Try.checked }
namespace Rows
def none {H : Type} : Left H := { results := [], args := [] }

/-- 'zzlaws_internal_frame_b1.FnAppendHeaderPrefixPlusTag': WHATEVER THE INPUT: true; the input reads as it did. -/
def fnAppendHeaderPrefixPlusTagSpec : ChangeSpec := { name := "fnAppendHeaderPrefixPlusTag", fn := fun _ => fun
  | [d1, d2, d3] => { results := [.lit (.bool true)], args := [d1, d2, d3] }
  | _ => none }
def fnAppendHeaderPrefixPlusTagRow : OpenClaim := { program := "qxb6614586a", sum := "14918c3db32b738c3df3f0265f72441320fc5de3140f093fc6be94294e4f4bc1", func := "example.com/ringcast/ringcast/zzlaws_internal_frame_b1.FnAppendHeaderPrefixPlusTag", spec := "fnAppendHeaderPrefixPlusTag", apart := false }
def FnAppendHeaderPrefixPlusTagSaid : Prop := fnAppendHeaderPrefixPlusTagRow.holds Try.pinned (OpenSpec.ofChange fnAppendHeaderPrefixPlusTagSpec)

/-- ITS FALSE NEIGHBOUR: 'it returns false'. Refute it at one input. -/
def fnAppendHeaderPrefixPlusTagWrong : ChangeSpec := { name := "fnAppendHeaderPrefixPlusTag", fn := fun _ => fun
  | [d1, d2, d3] => { results := [.lit (.bool false)], args := [d1, d2, d3] }
  | _ => none }
def FnAppendHeaderPrefixPlusTagWrongFalsely : Prop := fnAppendHeaderPrefixPlusTagRow.holds Try.pinned (OpenSpec.ofChange fnAppendHeaderPrefixPlusTagWrong)

end Rows
end Go.Proofs.Qxb6614586a
