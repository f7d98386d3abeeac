/-
  DERIVED. GIVEN WITH THE SEED: THE CARDS: each row of Qxb6612707aFmtRows.lean that lists a variable, with what it lists TIED to the program's text (the seventh form; the later family's looks); each row that meets fmt, with fmt's text TOLD by the authors' own Lean function (tested against real Go, not proved from fmt's source: count such statements apart). THE CARD IS WHAT COUNTS. Prove the row's statement (the work); the ties are given (Qxb6612707aFmtTie.lean); close each card by the builder's one call (the guide's Derived/Test/ToyasCard.lean, 'card_holds'). Laid BY PROGRAM, IN A SANDBOX (cutbox-door.mjs). By AI agents, Wed Nov 11 2026. No macro, syntax, notation, axiom, sorry.
-/
import Derived.Test.Qxb6612707aFmtRows
import GoSem.ClaimSeven
namespace Go.Proofs.Qxb6612707aFmt
namespace Rows

/-- THE TOLD CARD OF 'zzlaws_api_b1.FnInvalidStringInjective'. -/
def fnInvalidStringInjectiveCard : Claim7 := { stood := { row := fnInvalidStringInjectiveRow, standIns := [], harness := (true, "8e164c6ef46ddd08de73176f8c514e3d41bf5ca884875fe5cb36cb7aa58e813e"), looks := false }, told := true, goes := false }
def FnInvalidStringInjectiveToldSaid : Prop := Claim7.holds Tryf.pinned (.plain (OpenSpec.ofChange fnInvalidStringInjectiveSpec)) fnInvalidStringInjectiveCard
/-- ITS FALSE NEIGHBOUR. Refute it at one input. -/
def FnInvalidStringInjectiveToldWrongFalsely : Prop := Claim7.holds Tryf.pinned (.plain (OpenSpec.ofChange fnInvalidStringInjectiveWrong)) fnInvalidStringInjectiveCard
end Rows
end Go.Proofs.Qxb6612707aFmt
