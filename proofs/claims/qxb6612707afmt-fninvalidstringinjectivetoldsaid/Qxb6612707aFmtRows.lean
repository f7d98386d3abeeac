/-
  No cell of these rows narrows 'for every input' (looked for: loops, veiled, ifaces, maps, wideKeys, modest, calm, conditions, laid).
  DERIVED. THE GIVEN ROWS OF THIS SEAT. 1 by the template 'for every input the law returns true; each argument reads behind the call as it read before'; 0 by the template 'total and deterministic' (their statements: Qxb6612707aFmtTotals.lean).
  GIVEN WITH THE SEED: the statements are not yours to turn. If you find one false, say at which input.
  Laid BY PROGRAM, IN A SANDBOX (cutbox-rows.mjs): the forced cells as the released guide's own fill.sh prints them over the translation 651b4c917eef4460… (all of the seat's roots in one cut). By AI agents, Wed Nov 11 2026. No macro, syntax, notation, axiom, sorry.
-/
import Derived.Test.Qxb6612707aFmtChecked
import GoSem.Claim
import GoSem.ClaimJoined
import GoSem.ClaimMapViews
import Derived.JoinedTies
import Derived.KernelRfl
namespace Go.Proofs.Qxb6612707aFmt
/- THE CELL 'sum', in the pinned program and in every row, IS THE sha256 OF THE DUMP (.gsa) THAT Qxb6612707aFmtProg.lean LOADS. Nothing in Lean hashes anything: it is a label: what it is worth is what the hold of that sum in a sandbox is worth. -/
noncomputable def Tryf.pinned : Pinned := { name := "qxb6612707afmt", sum := "651b4c917eef4460fd98bf8f56a8d19174712ff8f841910a85d588fce146f71f", checked := Tryf.checked }
namespace Rows
def none {H : Type} : Left H := { results := [], args := [] }

/-- 'zzlaws_api_b1.FnInvalidStringInjective': WHATEVER THE INPUT: true; the input reads as it did. -/
def fnInvalidStringInjectiveSpec : ChangeSpec := { name := "fnInvalidStringInjective", fn := fun _ => fun
  | [d1, d2, d3, d4, d5] => { results := [.lit (.bool true)], args := [d1, d2, d3, d4, d5] }
  | _ => none }
def fnInvalidStringInjectiveRow : OpenClaim := { program := "qxb6612707afmt", sum := "651b4c917eef4460fd98bf8f56a8d19174712ff8f841910a85d588fce146f71f", func := "example.com/credence/credence/zzlaws_api_b1.FnInvalidStringInjective", spec := "fnInvalidStringInjective", stops := ["fmt.Sprintf"], inPlace := ["fmt.Sprintf"], apart := false }
/-- NO THEOREM (fmt's text is open here; it may be false): for the released tool's asking of the row's closed facts alone. THE STATEMENT IS 'FnInvalidStringInjectiveToldSaid' (Qxb6612707aFmtCards.lean). -/
def FnInvalidStringInjectiveFormAsk : Prop := fnInvalidStringInjectiveRow.holds Tryf.pinned (OpenSpec.ofChange fnInvalidStringInjectiveSpec)

/-- ITS FALSE NEIGHBOUR: 'it returns false'. Refute it at one input. -/
def fnInvalidStringInjectiveWrong : ChangeSpec := { name := "fnInvalidStringInjective", fn := fun _ => fun
  | [d1, d2, d3, d4, d5] => { results := [.lit (.bool false)], args := [d1, d2, d3, d4, d5] }
  | _ => none }
def FnInvalidStringInjectiveWrongFormAsk : Prop := fnInvalidStringInjectiveRow.holds Tryf.pinned (OpenSpec.ofChange fnInvalidStringInjectiveWrong)

end Rows
end Go.Proofs.Qxb6612707aFmt
