/-
  No cell of these rows narrows 'for every input' (looked for: loops, veiled, ifaces, maps, wideKeys, modest, calm, conditions, laid).
  DERIVED. THE GIVEN ROWS OF THIS SEAT. 1 by the template 'for every input the law returns true; each argument reads behind the call as it read before'; 0 by the template 'total and deterministic' (their statements: Qxb6612819aTotals.lean).
  GIVEN WITH THE SEED: the statements are not yours to turn. If you find one false, say at which input.
  Laid BY PROGRAM, IN A SANDBOX (cutbox-rows.mjs): the forced cells as the released guide's own fill.sh prints them over the translation 3a935b6c31704fc6… (all of the seat's roots in one cut). By AI agents, Wed Nov 11 2026. No macro, syntax, notation, axiom, sorry.
-/
import Derived.Test.Qxb6612819aChecked
import GoSem.Claim
import GoSem.ClaimJoined
import GoSem.ClaimMapViews
import Derived.JoinedTies
import Derived.KernelRfl
namespace Go.Proofs.Qxb6612819a
/- THE CELL 'sum', in the pinned program and in every row, IS THE sha256 OF THE DUMP (.gsa) THAT Qxb6612819aProg.lean LOADS. Nothing in Lean hashes anything: it is a label: what it is worth is what the hold of that sum in a sandbox is worth. -/
noncomputable def Try.pinned : Pinned := { name := "qxb6612819a", sum := "3a935b6c31704fc68da880ad7d78b9891feef8012886e62b2ff991875d713103", checked := Try.checked }
namespace Rows
def none {H : Type} : Left H := { results := [], args := [] }

/-- 'zzlaws_internal_profile_esfixed_b1.FnBlankJoinsAtAnyCut': WHATEVER THE INPUT: true; the input reads as it did. -/
def fnBlankJoinsAtAnyCutSpec : ChangeSpec := { name := "fnBlankJoinsAtAnyCut", fn := fun _ => fun
  | [d1, d2] => { results := [.lit (.bool true)], args := [d1, d2] }
  | _ => none }
def fnBlankJoinsAtAnyCutRow : OpenClaim := { program := "qxb6612819a", sum := "3a935b6c31704fc68da880ad7d78b9891feef8012886e62b2ff991875d713103", func := "example.com/portaclear/portaclear/zzlaws_internal_profile_esfixed_b1.FnBlankJoinsAtAnyCut", spec := "fnBlankJoinsAtAnyCut", inPlace := ["internal/bytealg.MakeNoZero"], apart := false }
def FnBlankJoinsAtAnyCutSaid : Prop := fnBlankJoinsAtAnyCutRow.holds Try.pinned (OpenSpec.ofChange fnBlankJoinsAtAnyCutSpec)

/-- ITS FALSE NEIGHBOUR: 'it returns false'. Refute it at one input. -/
def fnBlankJoinsAtAnyCutWrong : ChangeSpec := { name := "fnBlankJoinsAtAnyCut", fn := fun _ => fun
  | [d1, d2] => { results := [.lit (.bool false)], args := [d1, d2] }
  | _ => none }
def FnBlankJoinsAtAnyCutWrongFalsely : Prop := fnBlankJoinsAtAnyCutRow.holds Try.pinned (OpenSpec.ofChange fnBlankJoinsAtAnyCutWrong)

end Rows
end Go.Proofs.Qxb6612819a
