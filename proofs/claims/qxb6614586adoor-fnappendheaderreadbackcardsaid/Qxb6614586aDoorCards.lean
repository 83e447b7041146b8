/-
  DERIVED. GIVEN WITH THE SEED: THE CARDS: each row of Qxb6614586aDoorRows.lean that lists a variable, with what it lists TIED to the program's text (the seventh form; the later family's looks); each row that meets fmt, with fmt's text TOLD by the authors' own Lean function (tested against real Go, not proved from fmt's source: count such statements apart). THE CARD IS WHAT COUNTS. Prove the row's statement (the work); the ties are given (Qxb6614586aDoorTie.lean); close each card by the builder's one call (the guide's Derived/Test/ToyasCard.lean, 'card_holds'). Laid BY PROGRAM, IN A SANDBOX (cutbox-door.mjs). By AI agents, Wed Nov 11 2026. No macro, syntax, notation, axiom, sorry.
-/
import Derived.Test.Qxb6614586aDoorRows
import GoSem.ClaimSeven
namespace Go.Proofs.Qxb6614586aDoor
namespace Rows

/-- THE TIED CARD OF 'zzlaws_internal_frame_b1.FnAppendHeaderReadBack'. -/
def fnAppendHeaderReadBackCard : Claim7 := { stood := { row := fnAppendHeaderReadBackRow, standIns := [], harness := (true, "1530458b6c50eb3964eff294451aa27bdc68562f9bb5220fd913c9fa87f439da"), looks := false }, kinds := [], alts := [], laidByText := true, laidKinds := [.sentinel], laidTests := true, laidLooks := .later }
def FnAppendHeaderReadBackCardSaid : Prop := Claim7.holds Tryd.pinned (.plain (OpenSpec.ofChange fnAppendHeaderReadBackSpec)) fnAppendHeaderReadBackCard

/-- THE TIED CARD OF 'zzlaws_internal_frame_b1.FnReaderU8ReadsInOrder'. -/
def fnReaderU8ReadsInOrderCard : Claim7 := { stood := { row := fnReaderU8ReadsInOrderRow, standIns := [], harness := (true, "1530458b6c50eb3964eff294451aa27bdc68562f9bb5220fd913c9fa87f439da"), looks := false }, kinds := [], alts := [], laidByText := true, laidKinds := [.sentinel], laidTests := true, laidLooks := .later }
def FnReaderU8ReadsInOrderCardSaid : Prop := Claim7.holds Tryd.pinned (.plain (OpenSpec.ofChange fnReaderU8ReadsInOrderSpec)) fnReaderU8ReadsInOrderCard
end Rows
end Go.Proofs.Qxb6614586aDoor
