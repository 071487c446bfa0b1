/-
  No cell of these rows narrows 'for every input' (looked for: loops, veiled, ifaces, maps, wideKeys, modest, calm, conditions, laid).
  DERIVED. THE GIVEN ROWS OF THIS SEAT. 1 by the template 'for every input the law returns true; each argument reads behind the call as it read before'; 0 by the template 'total and deterministic' (their statements: Qxb6617986aTotals.lean).
  GIVEN WITH THE SEED: the statements are not yours to turn. If you find one false, say at which input.
  Laid BY PROGRAM, IN A SANDBOX (cutbox-rows.mjs): the forced cells as the released guide's own fill.sh prints them over the translation 8e7ea81063d5039c… (all of the seat's roots in one cut). By AI agents, Wed Nov 11 2026. No macro, syntax, notation, axiom, sorry.
-/
import Derived.Test.Qxb6617986aChecked
import GoSem.Claim
import GoSem.ClaimJoined
import GoSem.ClaimMapViews
import Derived.JoinedTies
import Derived.KernelRfl
namespace Go.Proofs.Qxb6617986a
/- THE CELL 'sum', in the pinned program and in every row, IS THE sha256 OF THE DUMP (.gsa) THAT Qxb6617986aProg.lean LOADS. Nothing in Lean hashes anything: it is a label: what it is worth is what the hold of that sum in a sandbox is worth. -/
noncomputable def Try.pinned : Pinned := { name := "qxb6617986a", sum := "8e7ea81063d5039ccaf321a23467a65ac00c5ca9aa0570494302b79ca29872ab", checked := Try.checked }
namespace Rows
def none {H : Type} : Left H := { results := [], args := [] }

/-- 'zzlaws_internal_manifest_b1.FnStringKeyAgreesWithPlainBool': WHATEVER THE INPUT: true; the input reads as it did. -/
def fnStringKeyAgreesWithPlainBoolSpec : ChangeSpec := { name := "fnStringKeyAgreesWithPlainBool", fn := fun _ => fun
  | [d1, d2] => { results := [.lit (.bool true)], args := [d1, d2] }
  | _ => none }
def fnStringKeyAgreesWithPlainBoolRow : OpenClaim := { program := "qxb6617986a", sum := "8e7ea81063d5039ccaf321a23467a65ac00c5ca9aa0570494302b79ca29872ab", func := "example.com/tollgate/tollgate/zzlaws_internal_manifest_b1.FnStringKeyAgreesWithPlainBool", spec := "fnStringKeyAgreesWithPlainBool", apart := false }
def FnStringKeyAgreesWithPlainBoolSaid : Prop := fnStringKeyAgreesWithPlainBoolRow.holds Try.pinned (OpenSpec.ofChange fnStringKeyAgreesWithPlainBoolSpec)

/-- ITS FALSE NEIGHBOUR: 'it returns false'. Refute it at one input. -/
def fnStringKeyAgreesWithPlainBoolWrong : ChangeSpec := { name := "fnStringKeyAgreesWithPlainBool", fn := fun _ => fun
  | [d1, d2] => { results := [.lit (.bool false)], args := [d1, d2] }
  | _ => none }
def FnStringKeyAgreesWithPlainBoolWrongFalsely : Prop := fnStringKeyAgreesWithPlainBoolRow.holds Try.pinned (OpenSpec.ofChange fnStringKeyAgreesWithPlainBoolWrong)

end Rows
end Go.Proofs.Qxb6617986a
