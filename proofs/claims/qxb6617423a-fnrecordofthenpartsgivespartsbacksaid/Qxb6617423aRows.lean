/-
  No cell of these rows narrows 'for every input' (looked for: loops, veiled, ifaces, maps, wideKeys, modest, calm, conditions, laid).
  DERIVED. THE GIVEN ROWS OF THIS SEAT. 2 by the template 'for every input the law returns true; each argument reads behind the call as it read before'; 0 by the template 'total and deterministic' (their statements: Qxb6617423aTotals.lean).
  GIVEN WITH THE SEED: the statements are not yours to turn. If you find one false, say at which input.
  Laid BY PROGRAM, IN A SANDBOX (cutbox-rows.mjs): the forced cells as the released guide's own fill.sh prints them over the translation aa25d558a25fb4e9… (all of the seat's roots in one cut). By AI agents, Wed Nov 11 2026. No macro, syntax, notation, axiom, sorry.
-/
import Derived.Test.Qxb6617423aChecked
import GoSem.Claim
import GoSem.ClaimJoined
import GoSem.ClaimMapViews
import Derived.JoinedTies
import Derived.KernelRfl
namespace Go.Proofs.Qxb6617423a
/- THE CELL 'sum', in the pinned program and in every row, IS THE sha256 OF THE DUMP (.gsa) THAT Qxb6617423aProg.lean LOADS. Nothing in Lean hashes anything: it is a label: what it is worth is what the hold of that sum in a sandbox is worth. -/
noncomputable def Try.pinned : Pinned := { name := "qxb6617423a", sum := "aa25d558a25fb4e93fdfa8b1ceabad37d4941512d8dc98da535bc1e2341a2ba9", checked := Try.checked }
namespace Rows
def none {H : Type} : Left H := { results := [], args := [] }

/-- 'zzlaws_pkg_store_b1.FnRecordOfThenPartsGivesPartsBack': WHATEVER THE INPUT: true; the input reads as it did. -/
def fnRecordOfThenPartsGivesPartsBackSpec : ChangeSpec := { name := "fnRecordOfThenPartsGivesPartsBack", fn := fun _ => fun
  | [d] => { results := [.lit (.bool true)], args := [d] }
  | _ => none }
def fnRecordOfThenPartsGivesPartsBackRow : OpenClaim := { program := "qxb6617423a", sum := "aa25d558a25fb4e93fdfa8b1ceabad37d4941512d8dc98da535bc1e2341a2ba9", func := "example.com/unfenced/unfenced/zzlaws_pkg_store_b1.FnRecordOfThenPartsGivesPartsBack", spec := "fnRecordOfThenPartsGivesPartsBack", apart := false }
def FnRecordOfThenPartsGivesPartsBackSaid : Prop := fnRecordOfThenPartsGivesPartsBackRow.holds Try.pinned (OpenSpec.ofChange fnRecordOfThenPartsGivesPartsBackSpec)

/-- ITS FALSE NEIGHBOUR: 'it returns false'. Refute it at one input. -/
def fnRecordOfThenPartsGivesPartsBackWrong : ChangeSpec := { name := "fnRecordOfThenPartsGivesPartsBack", fn := fun _ => fun
  | [d] => { results := [.lit (.bool false)], args := [d] }
  | _ => none }
def FnRecordOfThenPartsGivesPartsBackWrongFalsely : Prop := fnRecordOfThenPartsGivesPartsBackRow.holds Try.pinned (OpenSpec.ofChange fnRecordOfThenPartsGivesPartsBackWrong)

/-- 'zzlaws_pkg_store_b1.FnPartsThenRecordOfGivesRecordBack': WHATEVER THE INPUT: true; the input reads as it did. -/
def fnPartsThenRecordOfGivesRecordBackSpec : ChangeSpec := { name := "fnPartsThenRecordOfGivesRecordBack", fn := fun _ => fun
  | [d1, d2, d3, d4] => { results := [.lit (.bool true)], args := [d1, d2, d3, d4] }
  | _ => none }
def fnPartsThenRecordOfGivesRecordBackRow : OpenClaim := { program := "qxb6617423a", sum := "aa25d558a25fb4e93fdfa8b1ceabad37d4941512d8dc98da535bc1e2341a2ba9", func := "example.com/unfenced/unfenced/zzlaws_pkg_store_b1.FnPartsThenRecordOfGivesRecordBack", spec := "fnPartsThenRecordOfGivesRecordBack", apart := false }
def FnPartsThenRecordOfGivesRecordBackSaid : Prop := fnPartsThenRecordOfGivesRecordBackRow.holds Try.pinned (OpenSpec.ofChange fnPartsThenRecordOfGivesRecordBackSpec)

/-- ITS FALSE NEIGHBOUR: 'it returns false'. Refute it at one input. -/
def fnPartsThenRecordOfGivesRecordBackWrong : ChangeSpec := { name := "fnPartsThenRecordOfGivesRecordBack", fn := fun _ => fun
  | [d1, d2, d3, d4] => { results := [.lit (.bool false)], args := [d1, d2, d3, d4] }
  | _ => none }
def FnPartsThenRecordOfGivesRecordBackWrongFalsely : Prop := fnPartsThenRecordOfGivesRecordBackRow.holds Try.pinned (OpenSpec.ofChange fnPartsThenRecordOfGivesRecordBackWrong)

end Rows
end Go.Proofs.Qxb6617423a
