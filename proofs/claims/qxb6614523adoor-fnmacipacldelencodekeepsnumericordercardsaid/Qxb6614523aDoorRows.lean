/-
  NARROWER THAN 'FOR EVERY INPUT', by the rows' own cells (each row's printed sentence says how): FnMacipACLDelEncodeKeepsNumericOrder: ifaces, laid.
  DERIVED. THE GIVEN ROWS OF THIS SEAT. 1 by the template 'for every input the law returns true; each argument reads behind the call as it read before'; 0 by the template 'total and deterministic' (their statements: Qxb6614523aDoorTotals.lean).
  GIVEN WITH THE SEED: the statements are not yours to turn. If you find one false, say at which input.
  Laid BY PROGRAM, IN A SANDBOX (cutbox-rows.mjs): the forced cells as the released guide's own fill.sh prints them over the translation 20b064fc0895efad… (all of the seat's roots in one cut). By AI agents, Wed Nov 11 2026. No macro, syntax, notation, axiom, sorry.
-/
import Derived.Test.Qxb6614523aDoorChecked
import GoSem.Claim
import GoSem.ClaimJoined
import GoSem.ClaimMapViews
import Derived.JoinedTies
import Derived.KernelRfl
namespace Go.Proofs.Qxb6614523aDoor
/- THE CELL 'sum', in the pinned program and in every row, IS THE sha256 OF THE DUMP (.gsa) THAT Qxb6614523aDoorProg.lean LOADS. Nothing in Lean hashes anything: it is a label: what it is worth is what the hold of that sum in a sandbox is worth. -/
noncomputable def Tryd.pinned : Pinned := { name := "qxb6614523adoor", sum := "20b064fc0895efadef05d67da27fd1060478f90c1a2ce4b4d9688b9860d4c36b", checked := Tryd.checked }
namespace Rows
def none {H : Type} : Left H := { results := [], args := [] }

/- WHAT THE LISTED PACKAGE-LEVEL VARIABLES READ AS WHEN THE CALL BEGINS. Each datum BY PROGRAM (the guide's laid-datum.mjs) off the statement by which the dump's own 'gosem.cut.vars' lays the variable. In a bare row this is a premise. The card (Qxb6614523aDoorCards.lean) ties it to the program's text. -/
def laid_example_com_planewright_planewright_internal_binapi_errShort {H : Type} : DataW H := .iface "*errors.errorString" (.ptr (.agg [.lit (.string [109, 101, 115, 115, 97, 103, 101, 32, 116, 111, 111, 32, 115, 104, 111, 114, 116])]))

/-- 'zzlaws_internal_binapi_b1.FnMacipACLDelEncodeKeepsNumericOrder': WHATEVER THE INPUT: true; the input reads as it did. -/
def fnMacipACLDelEncodeKeepsNumericOrderSpec : ChangeSpec := { name := "fnMacipACLDelEncodeKeepsNumericOrder", vars := ["example.com/planewright/planewright/internal/binapi.errShort"], fn := fun _ => fun
  | [d1, d2, g1] => { results := [.lit (.bool true)], args := [d1, d2], vars := [g1] }
  | _ => none }
def fnMacipACLDelEncodeKeepsNumericOrderRow : OpenClaim := { program := "qxb6614523adoor", sum := "20b064fc0895efadef05d67da27fd1060478f90c1a2ce4b4d9688b9860d4c36b", func := "example.com/planewright/planewright/zzlaws_internal_binapi_b1.FnMacipACLDelEncodeKeepsNumericOrder", spec := "fnMacipACLDelEncodeKeepsNumericOrder", named := ["example.com/planewright/planewright/internal/binapi.errShort", "encoding/binary.BigEndian"], ifaces := true, apart := false, laid := [("example.com/planewright/planewright/internal/binapi.errShort", laid_example_com_planewright_planewright_internal_binapi_errShort)] }
def FnMacipACLDelEncodeKeepsNumericOrderSaid : Prop := fnMacipACLDelEncodeKeepsNumericOrderRow.holds Tryd.pinned (OpenSpec.ofChange fnMacipACLDelEncodeKeepsNumericOrderSpec)

/-- ITS FALSE NEIGHBOUR: 'it returns false'. Refute it at one input. -/
def fnMacipACLDelEncodeKeepsNumericOrderWrong : ChangeSpec := { name := "fnMacipACLDelEncodeKeepsNumericOrder", vars := ["example.com/planewright/planewright/internal/binapi.errShort"], fn := fun _ => fun
  | [d1, d2, g1] => { results := [.lit (.bool false)], args := [d1, d2], vars := [g1] }
  | _ => none }
def FnMacipACLDelEncodeKeepsNumericOrderWrongFalsely : Prop := fnMacipACLDelEncodeKeepsNumericOrderRow.holds Tryd.pinned (OpenSpec.ofChange fnMacipACLDelEncodeKeepsNumericOrderWrong)

end Rows
end Go.Proofs.Qxb6614523aDoor
