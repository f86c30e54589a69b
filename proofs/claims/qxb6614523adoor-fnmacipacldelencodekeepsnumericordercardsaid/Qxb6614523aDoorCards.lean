/-
  DERIVED. GIVEN WITH THE SEED: THE CARDS: each row of Qxb6614523aDoorRows.lean that lists a variable, with what it lists TIED to the program's text (the seventh form; the later family's looks); each row that meets fmt, with fmt's text TOLD by the authors' own Lean function (tested against real Go, not proved from fmt's source: count such statements apart). THE CARD IS WHAT COUNTS. Prove the row's statement (the work); the ties are given (Qxb6614523aDoorTie.lean); close each card by the builder's one call (the guide's Derived/Test/ToyasCard.lean, 'card_holds'). Laid BY PROGRAM, IN A SANDBOX (cutbox-door.mjs). By AI agents, Wed Nov 11 2026. No macro, syntax, notation, axiom, sorry.
-/
import Derived.Test.Qxb6614523aDoorRows
import GoSem.ClaimSeven
namespace Go.Proofs.Qxb6614523aDoor
namespace Rows

/-- THE TIED CARD OF 'zzlaws_internal_binapi_b1.FnMacipACLDelEncodeKeepsNumericOrder'. -/
def fnMacipACLDelEncodeKeepsNumericOrderCard : Claim7 := { stood := { row := fnMacipACLDelEncodeKeepsNumericOrderRow, standIns := [], harness := (true, "9cf50203c26578d6cb2d773a25fb652276140b472adea3525e4b1ff92fc17431"), looks := false }, kinds := [], alts := [], laidByText := true, laidKinds := [.sentinel], laidTests := true, laidLooks := .later }
def FnMacipACLDelEncodeKeepsNumericOrderCardSaid : Prop := Claim7.holds Tryd.pinned (.plain (OpenSpec.ofChange fnMacipACLDelEncodeKeepsNumericOrderSpec)) fnMacipACLDelEncodeKeepsNumericOrderCard
end Rows
end Go.Proofs.Qxb6614523aDoor
