/-
  NARROWER THAN 'FOR EVERY INPUT', by the rows' own cells (each row's printed sentence says how): FnAppendHeaderReadBack: ifaces, laid · FnReaderU8ReadsInOrder: ifaces, laid.
  DERIVED. THE GIVEN ROWS OF THIS SEAT. 2 by the template 'for every input the law returns true; each argument reads behind the call as it read before'; 0 by the template 'total and deterministic' (their statements: Qxb6614586aDoorTotals.lean).
  GIVEN WITH THE SEED: the statements are not yours to turn. If you find one false, say at which input.
  Laid BY PROGRAM, IN A SANDBOX (cutbox-rows.mjs): the forced cells as the released guide's own fill.sh prints them over the translation eeb45f7f1b8fc2e2… (all of the seat's roots in one cut). By AI agents, Wed Nov 11 2026. No macro, syntax, notation, axiom, sorry.
-/
import Derived.Test.Qxb6614586aDoorChecked
import GoSem.Claim
import GoSem.ClaimJoined
import GoSem.ClaimMapViews
import Derived.JoinedTies
import Derived.KernelRfl
namespace Go.Proofs.Qxb6614586aDoor
/- THE CELL 'sum', in the pinned program and in every row, IS THE sha256 OF THE DUMP (.gsa) THAT Qxb6614586aDoorProg.lean LOADS. Nothing in Lean hashes anything: it is a label: what it is worth is what the hold of that sum in a sandbox is worth. -/
noncomputable def Tryd.pinned : Pinned := { name := "qxb6614586adoor", sum := "eeb45f7f1b8fc2e216f3a7225d9c4f63729e877d781c873e9236c7075370511d", checked := Tryd.checked }
namespace Rows
def none {H : Type} : Left H := { results := [], args := [] }

/- WHAT THE LISTED PACKAGE-LEVEL VARIABLES READ AS WHEN THE CALL BEGINS. Each datum BY PROGRAM (the guide's laid-datum.mjs) off the statement by which the dump's own 'gosem.cut.vars' lays the variable. In a bare row this is a premise. The card (Qxb6614586aDoorCards.lean) ties it to the program's text. -/
def laid_example_com_ringcast_ringcast_internal_frame_errShort {H : Type} : DataW H := .iface "*errors.errorString" (.ptr (.agg [.lit (.string [102, 114, 97, 109, 101, 32, 101, 110, 100, 115, 32, 101, 97, 114, 108, 121])]))

/-- 'zzlaws_internal_frame_b1.FnAppendHeaderReadBack': WHATEVER THE INPUT: true; the input reads as it did. -/
def fnAppendHeaderReadBackSpec : ChangeSpec := { name := "fnAppendHeaderReadBack", vars := ["example.com/ringcast/ringcast/internal/frame.errShort"], fn := fun _ => fun
  | [d1, d2, g1] => { results := [.lit (.bool true)], args := [d1, d2], vars := [g1] }
  | _ => none }
def fnAppendHeaderReadBackRow : OpenClaim := { program := "qxb6614586adoor", sum := "eeb45f7f1b8fc2e216f3a7225d9c4f63729e877d781c873e9236c7075370511d", func := "example.com/ringcast/ringcast/zzlaws_internal_frame_b1.FnAppendHeaderReadBack", spec := "fnAppendHeaderReadBack", named := ["example.com/ringcast/ringcast/internal/frame.errShort"], ifaces := true, apart := false, laid := [("example.com/ringcast/ringcast/internal/frame.errShort", laid_example_com_ringcast_ringcast_internal_frame_errShort)] }
def FnAppendHeaderReadBackSaid : Prop := fnAppendHeaderReadBackRow.holds Tryd.pinned (OpenSpec.ofChange fnAppendHeaderReadBackSpec)

/-- ITS FALSE NEIGHBOUR: 'it returns false'. Refute it at one input. -/
def fnAppendHeaderReadBackWrong : ChangeSpec := { name := "fnAppendHeaderReadBack", vars := ["example.com/ringcast/ringcast/internal/frame.errShort"], fn := fun _ => fun
  | [d1, d2, g1] => { results := [.lit (.bool false)], args := [d1, d2], vars := [g1] }
  | _ => none }
def FnAppendHeaderReadBackWrongFalsely : Prop := fnAppendHeaderReadBackRow.holds Tryd.pinned (OpenSpec.ofChange fnAppendHeaderReadBackWrong)

/-- 'zzlaws_internal_frame_b1.FnReaderU8ReadsInOrder': WHATEVER THE INPUT: true; the input reads as it did. -/
def fnReaderU8ReadsInOrderSpec : ChangeSpec := { name := "fnReaderU8ReadsInOrder", vars := ["example.com/ringcast/ringcast/internal/frame.errShort"], fn := fun _ => fun
  | [d1, d2, g1] => { results := [.lit (.bool true)], args := [d1, d2], vars := [g1] }
  | _ => none }
def fnReaderU8ReadsInOrderRow : OpenClaim := { program := "qxb6614586adoor", sum := "eeb45f7f1b8fc2e216f3a7225d9c4f63729e877d781c873e9236c7075370511d", func := "example.com/ringcast/ringcast/zzlaws_internal_frame_b1.FnReaderU8ReadsInOrder", spec := "fnReaderU8ReadsInOrder", named := ["example.com/ringcast/ringcast/internal/frame.errShort"], ifaces := true, apart := false, laid := [("example.com/ringcast/ringcast/internal/frame.errShort", laid_example_com_ringcast_ringcast_internal_frame_errShort)] }
def FnReaderU8ReadsInOrderSaid : Prop := fnReaderU8ReadsInOrderRow.holds Tryd.pinned (OpenSpec.ofChange fnReaderU8ReadsInOrderSpec)

/-- ITS FALSE NEIGHBOUR: 'it returns false'. Refute it at one input. -/
def fnReaderU8ReadsInOrderWrong : ChangeSpec := { name := "fnReaderU8ReadsInOrder", vars := ["example.com/ringcast/ringcast/internal/frame.errShort"], fn := fun _ => fun
  | [d1, d2, g1] => { results := [.lit (.bool false)], args := [d1, d2], vars := [g1] }
  | _ => none }
def FnReaderU8ReadsInOrderWrongFalsely : Prop := fnReaderU8ReadsInOrderRow.holds Tryd.pinned (OpenSpec.ofChange fnReaderU8ReadsInOrderWrong)

end Rows
end Go.Proofs.Qxb6614586aDoor
