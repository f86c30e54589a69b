/-
  No cell of these rows narrows 'for every input' (looked for: loops, veiled, ifaces, maps, wideKeys, modest, calm, conditions, laid).
  DERIVED. THE GIVEN ROWS OF THIS SEAT. 1 by the template 'for every input the law returns true; each argument reads behind the call as it read before'; 0 by the template 'total and deterministic' (their statements: Qxb6609063aTotals.lean).
  GIVEN WITH THE SEED: the statements are not yours to turn. If you find one false, say at which input.
  Laid BY PROGRAM, IN A SANDBOX (cutbox-rows.mjs): the forced cells as the released guide's own fill.sh prints them over the translation 15af112b007b7b6c… (all of the seat's roots in one cut). By AI agents, Wed Nov 11 2026. No macro, syntax, notation, axiom, sorry.
-/
import Derived.Test.Qxb6609063aChecked
import GoSem.Claim
import GoSem.ClaimJoined
import GoSem.ClaimMapViews
import Derived.JoinedTies
import Derived.KernelRfl
namespace Go.Proofs.Qxb6609063a
/- THE CELL 'sum', in the pinned program and in every row, IS THE sha256 OF THE DUMP (.gsa) THAT Qxb6609063aProg.lean LOADS. Nothing in Lean hashes anything: it is a label: what it is worth is what the hold of that sum in a sandbox is worth. -/
noncomputable def Try.pinned : Pinned := { name := "qxb6609063a", sum := "15af112b007b7b6c803c20e3900cfd57277e10072e7c63bc3afaa2a6e2fe1df3", checked := Try.checked }
namespace Rows
def none {H : Type} : Left H := { results := [], args := [] }

/-- 'zzlaws_internal_localcluster_b1.FnWaitReportsEndRepeatably': WHATEVER THE INPUT: true; the input reads as it did. -/
def fnWaitReportsEndRepeatablySpec : ChangeSpec := { name := "fnWaitReportsEndRepeatably", fn := fun _ => fun
  | [d] => { results := [.lit (.bool true)], args := [d] }
  | _ => none }
def fnWaitReportsEndRepeatablyRow : OpenClaim := { program := "qxb6609063a", sum := "15af112b007b7b6c803c20e3900cfd57277e10072e7c63bc3afaa2a6e2fe1df3", func := "example.com/quorumline/quorumline/zzlaws_internal_localcluster_b1.FnWaitReportsEndRepeatably", spec := "fnWaitReportsEndRepeatably", apart := false }
def FnWaitReportsEndRepeatablySaid : Prop := fnWaitReportsEndRepeatablyRow.holds Try.pinned (OpenSpec.ofChange fnWaitReportsEndRepeatablySpec)

/-- ITS FALSE NEIGHBOUR: 'it returns false'. Refute it at one input. -/
def fnWaitReportsEndRepeatablyWrong : ChangeSpec := { name := "fnWaitReportsEndRepeatably", fn := fun _ => fun
  | [d] => { results := [.lit (.bool false)], args := [d] }
  | _ => none }
def FnWaitReportsEndRepeatablyWrongFalsely : Prop := fnWaitReportsEndRepeatablyRow.holds Try.pinned (OpenSpec.ofChange fnWaitReportsEndRepeatablyWrong)

end Rows
end Go.Proofs.Qxb6609063a
