/-
  No cell of these rows narrows 'for every input' (looked for: loops, veiled, ifaces, maps, wideKeys, modest, calm, conditions, laid).
  DERIVED. THE GIVEN ROWS OF THIS SEAT. 1 by the template 'for every input the law returns true; each argument reads behind the call as it read before'; 0 by the template 'total and deterministic' (their statements: Qxb6615122aFmtTotals.lean).
  GIVEN WITH THE SEED: the statements are not yours to turn. If you find one false, say at which input.
  Laid BY PROGRAM, IN A SANDBOX (cutbox-rows.mjs): the forced cells as the released guide's own fill.sh prints them over the translation 705b4e3bedc92119… (all of the seat's roots in one cut). By AI agents, Wed Nov 11 2026. No macro, syntax, notation, axiom, sorry.
-/
import Derived.Test.Qxb6615122aFmtChecked
import GoSem.Claim
import GoSem.ClaimJoined
import GoSem.ClaimMapViews
import Derived.JoinedTies
import Derived.KernelRfl
namespace Go.Proofs.Qxb6615122aFmt
/- THE CELL 'sum', in the pinned program and in every row, IS THE sha256 OF THE DUMP (.gsa) THAT Qxb6615122aFmtProg.lean LOADS. Nothing in Lean hashes anything: it is a label: what it is worth is what the hold of that sum in a sandbox is worth. -/
noncomputable def Tryf.pinned : Pinned := { name := "qxb6615122afmt", sum := "705b4e3bedc9211986589a56c2f224c55234639257a58ab2d2b96f3e5c73ca03", checked := Tryf.checked }
namespace Rows
def none {H : Type} : Left H := { results := [], args := [] }

/-- 'zzlaws_pkg_promomap_b1.FnUnknownFieldAlwaysRefuses': WHATEVER THE INPUT: true; the input reads as it did. -/
def fnUnknownFieldAlwaysRefusesSpec : ChangeSpec := { name := "fnUnknownFieldAlwaysRefuses", fn := fun _ => fun
  | [d1, d2, d3] => { results := [.lit (.bool true)], args := [d1, d2, d3] }
  | _ => none }
def fnUnknownFieldAlwaysRefusesRow : OpenClaim := { program := "qxb6615122afmt", sum := "705b4e3bedc9211986589a56c2f224c55234639257a58ab2d2b96f3e5c73ca03", func := "example.com/descontal/descontal/zzlaws_pkg_promomap_b1.FnUnknownFieldAlwaysRefuses", spec := "fnUnknownFieldAlwaysRefuses", stops := ["fmt.errorf", "fmt.Sprintf"], inPlace := ["fmt.Sprintf", "internal/abi.NoEscape", "internal/bytealg.MakeNoZero", "fmt.errorf"], apart := false }
/-- NO THEOREM (fmt's text is open here; it may be false): for the released tool's asking of the row's closed facts alone. THE STATEMENT IS 'FnUnknownFieldAlwaysRefusesToldSaid' (Qxb6615122aFmtCards.lean). -/
def FnUnknownFieldAlwaysRefusesFormAsk : Prop := fnUnknownFieldAlwaysRefusesRow.holds Tryf.pinned (OpenSpec.ofChange fnUnknownFieldAlwaysRefusesSpec)

/-- ITS FALSE NEIGHBOUR: 'it returns false'. Refute it at one input. -/
def fnUnknownFieldAlwaysRefusesWrong : ChangeSpec := { name := "fnUnknownFieldAlwaysRefuses", fn := fun _ => fun
  | [d1, d2, d3] => { results := [.lit (.bool false)], args := [d1, d2, d3] }
  | _ => none }
def FnUnknownFieldAlwaysRefusesWrongFormAsk : Prop := fnUnknownFieldAlwaysRefusesRow.holds Tryf.pinned (OpenSpec.ofChange fnUnknownFieldAlwaysRefusesWrong)

end Rows
end Go.Proofs.Qxb6615122aFmt
