/-
  DERIVED. GIVEN WITH THE SEED: THE CARDS: each row of Qxb6615122aFmtRows.lean that lists a variable, with what it lists TIED to the program's text (the seventh form; the later family's looks); each row that meets fmt, with fmt's text TOLD by the authors' own Lean function (tested against real Go, not proved from fmt's source: count such statements apart). THE CARD IS WHAT COUNTS. Prove the row's statement (the work); the ties are given (Qxb6615122aFmtTie.lean); close each card by the builder's one call (the guide's Derived/Test/ToyasCard.lean, 'card_holds'). Laid BY PROGRAM, IN A SANDBOX (cutbox-door.mjs). By AI agents, Wed Nov 11 2026. No macro, syntax, notation, axiom, sorry.
-/
import Derived.Test.Qxb6615122aFmtRows
import GoSem.ClaimSeven
namespace Go.Proofs.Qxb6615122aFmt
namespace Rows

/-- THE TOLD CARD OF 'zzlaws_pkg_promomap_b1.FnUnknownFieldAlwaysRefuses'. -/
def fnUnknownFieldAlwaysRefusesCard : Claim7 := { stood := { row := fnUnknownFieldAlwaysRefusesRow, standIns := [], harness := (true, "dacc1f9dcacfbe1450a3188182d6b7375c66144002ff8b268ab6b8792297a147"), looks := false }, told := true, goes := false }
def FnUnknownFieldAlwaysRefusesToldSaid : Prop := Claim7.holds Tryf.pinned (.plain (OpenSpec.ofChange fnUnknownFieldAlwaysRefusesSpec)) fnUnknownFieldAlwaysRefusesCard
/-- ITS FALSE NEIGHBOUR. Refute it at one input. -/
def FnUnknownFieldAlwaysRefusesToldWrongFalsely : Prop := Claim7.holds Tryf.pinned (.plain (OpenSpec.ofChange fnUnknownFieldAlwaysRefusesWrong)) fnUnknownFieldAlwaysRefusesCard
end Rows
end Go.Proofs.Qxb6615122aFmt
