/-
  NARROWER THAN 'FOR EVERY INPUT', by the rows' own cells (each row's printed sentence says how): FnKindOfCaseTable: laid · FnKindOfFirstRefusalInChain: laid.
  DERIVED. THE GIVEN ROWS OF THIS SEAT. 2 by the template 'for every input the law returns true; each argument reads behind the call as it read before'; 0 by the template 'total and deterministic' (their statements: Qxb6605725aDoorTotals.lean).
  GIVEN WITH THE SEED: the statements are not yours to turn. If you find one false, say at which input.
  Laid BY PROGRAM, IN A SANDBOX (cutbox-rows.mjs): the forced cells as the released guide's own fill.sh prints them over the translation a87a3c96a79f7b6c… (all of the seat's roots in one cut). By AI agents, Wed Nov 11 2026. No macro, syntax, notation, axiom, sorry.
-/
import Derived.Test.Qxb6605725aDoorChecked
import GoSem.Claim
import GoSem.ClaimJoined
import GoSem.ClaimMapViews
import Derived.JoinedTies
import Derived.KernelRfl
namespace Go.Proofs.Qxb6605725aDoor
/- THE CELL 'sum', in the pinned program and in every row, IS THE sha256 OF THE DUMP (.gsa) THAT Qxb6605725aDoorProg.lean LOADS. Nothing in Lean hashes anything: it is a label: what it is worth is what the hold of that sum in a sandbox is worth. -/
noncomputable def Tryd.pinned : Pinned := { name := "qxb6605725adoor", sum := "a87a3c96a79f7b6c3de6d07261a4b37b992c590bc72c6f0e8f80dc456078be1b", checked := Tryd.checked }
namespace Rows
def none {H : Type} : Left H := { results := [], args := [] }

/- WHAT THE LISTED PACKAGE-LEVEL VARIABLES READ AS WHEN THE CALL BEGINS. Each datum BY PROGRAM (the guide's laid-datum.mjs) off the statement by which the dump's own 'gosem.cut.vars' lays the variable. In a bare row this is a premise. The card (Qxb6605725aDoorCards.lean) ties it to the program's text. -/
def laid_errors_errorType {H : Type} : DataW H := .iface "internal/reflectlite.rtype" (.agg [.ptr (.lit (.string [101, 114, 114, 111, 114]))])

/-- 'zzlaws_internal_ledger_b1.FnKindOfCaseTable': WHATEVER THE INPUT: true; the input reads as it did. -/
def fnKindOfCaseTableSpec : ChangeSpec := { name := "fnKindOfCaseTable", fn := fun _ => fun
  | [d1, d2] => { results := [.lit (.bool true)], args := [d1, d2] }
  | _ => none }
def fnKindOfCaseTableRow : OpenClaim := { program := "qxb6605725adoor", sum := "a87a3c96a79f7b6c3de6d07261a4b37b992c590bc72c6f0e8f80dc456078be1b", func := "example.com/tierledger/tierledger/zzlaws_internal_ledger_b1.FnKindOfCaseTable", spec := "fnKindOfCaseTable", inPlace := ["internal/reflectlite.ValueOf", "(internal/reflectlite.Value).Type", "(internal/reflectlite.Value).IsNil", "internal/reflectlite.TypeOf", "(internal/reflectlite.Value).Elem", "(internal/reflectlite.Value).Set"], unfollowed := true, recurses := true, named := ["errors.errorType"], apart := false, laid := [("errors.errorType", laid_errors_errorType)] }
def FnKindOfCaseTableSaid : Prop := fnKindOfCaseTableRow.holds Tryd.pinned (OpenSpec.ofChange fnKindOfCaseTableSpec)

/-- ITS FALSE NEIGHBOUR: 'it returns false'. Refute it at one input. -/
def fnKindOfCaseTableWrong : ChangeSpec := { name := "fnKindOfCaseTable", fn := fun _ => fun
  | [d1, d2] => { results := [.lit (.bool false)], args := [d1, d2] }
  | _ => none }
def FnKindOfCaseTableWrongFalsely : Prop := fnKindOfCaseTableRow.holds Tryd.pinned (OpenSpec.ofChange fnKindOfCaseTableWrong)

/-- 'zzlaws_internal_ledger_b1.FnKindOfFirstRefusalInChain': WHATEVER THE INPUT: true; the input reads as it did. -/
def fnKindOfFirstRefusalInChainSpec : ChangeSpec := { name := "fnKindOfFirstRefusalInChain", fn := fun _ => fun
  | [d1, d2, d3, d4, d5] => { results := [.lit (.bool true)], args := [d1, d2, d3, d4, d5] }
  | _ => none }
def fnKindOfFirstRefusalInChainRow : OpenClaim := { program := "qxb6605725adoor", sum := "a87a3c96a79f7b6c3de6d07261a4b37b992c590bc72c6f0e8f80dc456078be1b", func := "example.com/tierledger/tierledger/zzlaws_internal_ledger_b1.FnKindOfFirstRefusalInChain", spec := "fnKindOfFirstRefusalInChain", inPlace := ["internal/reflectlite.ValueOf", "(internal/reflectlite.Value).Type", "(internal/reflectlite.Value).IsNil", "internal/reflectlite.TypeOf", "(internal/reflectlite.Value).Elem", "(internal/reflectlite.Value).Set"], unfollowed := true, recurses := true, named := ["errors.errorType"], apart := false, laid := [("errors.errorType", laid_errors_errorType)] }
def FnKindOfFirstRefusalInChainSaid : Prop := fnKindOfFirstRefusalInChainRow.holds Tryd.pinned (OpenSpec.ofChange fnKindOfFirstRefusalInChainSpec)

/-- ITS FALSE NEIGHBOUR: 'it returns false'. Refute it at one input. -/
def fnKindOfFirstRefusalInChainWrong : ChangeSpec := { name := "fnKindOfFirstRefusalInChain", fn := fun _ => fun
  | [d1, d2, d3, d4, d5] => { results := [.lit (.bool false)], args := [d1, d2, d3, d4, d5] }
  | _ => none }
def FnKindOfFirstRefusalInChainWrongFalsely : Prop := fnKindOfFirstRefusalInChainRow.holds Tryd.pinned (OpenSpec.ofChange fnKindOfFirstRefusalInChainWrong)

end Rows
end Go.Proofs.Qxb6605725aDoor
