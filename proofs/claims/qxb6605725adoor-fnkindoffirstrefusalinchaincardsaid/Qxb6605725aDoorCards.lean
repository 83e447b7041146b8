/-
  DERIVED. GIVEN WITH THE SEED: THE CARDS: each row of Qxb6605725aDoorRows.lean that lists a variable, with what it lists TIED to the program's text (the seventh form; the later family's looks); each row that meets fmt, with fmt's text TOLD by the authors' own Lean function (tested against real Go, not proved from fmt's source: count such statements apart). THE CARD IS WHAT COUNTS. Prove the row's statement (the work); the ties are given (Qxb6605725aDoorTie.lean); close each card by the builder's one call (the guide's Derived/Test/ToyasCard.lean, 'card_holds'). Laid BY PROGRAM, IN A SANDBOX (cutbox-door.mjs). By AI agents, Wed Nov 11 2026. No macro, syntax, notation, axiom, sorry.
-/
import Derived.Test.Qxb6605725aDoorRows
import GoSem.ClaimSeven
namespace Go.Proofs.Qxb6605725aDoor
namespace Rows

/-- THE TIED CARD OF 'zzlaws_internal_ledger_b1.FnKindOfCaseTable'. -/
def fnKindOfCaseTableCard : Claim7 := { stood := { row := fnKindOfCaseTableRow, standIns := [], harness := (true, "4cc4ebfe605ffd74d59abdb62018e0fe485ed5002d4d07f85aab003c90759b15"), looks := true }, kinds := [], alts := [], laidByText := true, laidKinds := [.handle], laidTests := true, laidLooks := .later }
def FnKindOfCaseTableCardSaid : Prop := Claim7.holds Tryd.pinned (.plain (OpenSpec.ofChange fnKindOfCaseTableSpec)) fnKindOfCaseTableCard

/-- THE TIED CARD OF 'zzlaws_internal_ledger_b1.FnKindOfFirstRefusalInChain'. -/
def fnKindOfFirstRefusalInChainCard : Claim7 := { stood := { row := fnKindOfFirstRefusalInChainRow, standIns := [], harness := (true, "4cc4ebfe605ffd74d59abdb62018e0fe485ed5002d4d07f85aab003c90759b15"), looks := true }, kinds := [], alts := [], laidByText := true, laidKinds := [.handle], laidTests := true, laidLooks := .later }
def FnKindOfFirstRefusalInChainCardSaid : Prop := Claim7.holds Tryd.pinned (.plain (OpenSpec.ofChange fnKindOfFirstRefusalInChainSpec)) fnKindOfFirstRefusalInChainCard
end Rows
end Go.Proofs.Qxb6605725aDoor
