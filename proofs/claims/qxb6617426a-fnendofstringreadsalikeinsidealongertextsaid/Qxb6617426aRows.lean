/-
  No cell of these rows narrows 'for every input' (looked for: loops, veiled, ifaces, maps, wideKeys, modest, calm, conditions, laid).
  DERIVED. THE GIVEN ROWS OF THIS SEAT. 2 by the template 'for every input the law returns true; each argument reads behind the call as it read before'; 0 by the template 'total and deterministic' (their statements: Qxb6617426aTotals.lean).
  GIVEN WITH THE SEED: the statements are not yours to turn. If you find one false, say at which input.
  Laid BY PROGRAM, IN A SANDBOX (cutbox-rows.mjs): the forced cells as the released guide's own fill.sh prints them over the translation ba14adf122655552… (all of the seat's roots in one cut). By AI agents, Wed Nov 11 2026. No macro, syntax, notation, axiom, sorry.
-/
import Derived.Test.Qxb6617426aChecked
import GoSem.Claim
import GoSem.ClaimJoined
import GoSem.ClaimMapViews
import Derived.JoinedTies
import Derived.KernelRfl
namespace Go.Proofs.Qxb6617426a
/- THE CELL 'sum', in the pinned program and in every row, IS THE sha256 OF THE DUMP (.gsa) THAT Qxb6617426aProg.lean LOADS. Nothing in Lean hashes anything: it is a label: what it is worth is what the hold of that sum in a sandbox is worth. -/
noncomputable def Try.pinned : Pinned := { name := "qxb6617426a", sum := "ba14adf122655552a76f764b9bf76d979c731e0f4ff7c88361901700ce273328", checked := Try.checked }
namespace Rows
def none {H : Type} : Left H := { results := [], args := [] }

/-- 'zzlaws_internal_book_b1.FnEndOfStringIsFirstUnescapedQuoteAndAnyCutAgrees': WHATEVER THE INPUT: true; the input reads as it did. -/
def fnEndOfStringIsFirstUnescapedQuoteAndAnyCutAgreesSpec : ChangeSpec := { name := "fnEndOfStringIsFirstUnescapedQuoteAndAnyCutAgrees", fn := fun _ => fun
  | [d1, d2, d3] => { results := [.lit (.bool true)], args := [d1, d2, d3] }
  | _ => none }
def fnEndOfStringIsFirstUnescapedQuoteAndAnyCutAgreesRow : OpenClaim := { program := "qxb6617426a", sum := "ba14adf122655552a76f764b9bf76d979c731e0f4ff7c88361901700ce273328", func := "example.com/tuoguan/tuoguan/zzlaws_internal_book_b1.FnEndOfStringIsFirstUnescapedQuoteAndAnyCutAgrees", spec := "fnEndOfStringIsFirstUnescapedQuoteAndAnyCutAgrees", apart := false }
def FnEndOfStringIsFirstUnescapedQuoteAndAnyCutAgreesSaid : Prop := fnEndOfStringIsFirstUnescapedQuoteAndAnyCutAgreesRow.holds Try.pinned (OpenSpec.ofChange fnEndOfStringIsFirstUnescapedQuoteAndAnyCutAgreesSpec)

/-- ITS FALSE NEIGHBOUR: 'it returns false'. Refute it at one input. -/
def fnEndOfStringIsFirstUnescapedQuoteAndAnyCutAgreesWrong : ChangeSpec := { name := "fnEndOfStringIsFirstUnescapedQuoteAndAnyCutAgrees", fn := fun _ => fun
  | [d1, d2, d3] => { results := [.lit (.bool false)], args := [d1, d2, d3] }
  | _ => none }
def FnEndOfStringIsFirstUnescapedQuoteAndAnyCutAgreesWrongFalsely : Prop := fnEndOfStringIsFirstUnescapedQuoteAndAnyCutAgreesRow.holds Try.pinned (OpenSpec.ofChange fnEndOfStringIsFirstUnescapedQuoteAndAnyCutAgreesWrong)

/-- 'zzlaws_internal_book_b1.FnEndOfStringReadsAlikeInsideALongerText': WHATEVER THE INPUT: true; the input reads as it did. -/
def fnEndOfStringReadsAlikeInsideALongerTextSpec : ChangeSpec := { name := "fnEndOfStringReadsAlikeInsideALongerText", fn := fun _ => fun
  | [d1, d2, d3, d4] => { results := [.lit (.bool true)], args := [d1, d2, d3, d4] }
  | _ => none }
def fnEndOfStringReadsAlikeInsideALongerTextRow : OpenClaim := { program := "qxb6617426a", sum := "ba14adf122655552a76f764b9bf76d979c731e0f4ff7c88361901700ce273328", func := "example.com/tuoguan/tuoguan/zzlaws_internal_book_b1.FnEndOfStringReadsAlikeInsideALongerText", spec := "fnEndOfStringReadsAlikeInsideALongerText", apart := false }
def FnEndOfStringReadsAlikeInsideALongerTextSaid : Prop := fnEndOfStringReadsAlikeInsideALongerTextRow.holds Try.pinned (OpenSpec.ofChange fnEndOfStringReadsAlikeInsideALongerTextSpec)

/-- ITS FALSE NEIGHBOUR: 'it returns false'. Refute it at one input. -/
def fnEndOfStringReadsAlikeInsideALongerTextWrong : ChangeSpec := { name := "fnEndOfStringReadsAlikeInsideALongerText", fn := fun _ => fun
  | [d1, d2, d3, d4] => { results := [.lit (.bool false)], args := [d1, d2, d3, d4] }
  | _ => none }
def FnEndOfStringReadsAlikeInsideALongerTextWrongFalsely : Prop := fnEndOfStringReadsAlikeInsideALongerTextRow.holds Try.pinned (OpenSpec.ofChange fnEndOfStringReadsAlikeInsideALongerTextWrong)

end Rows
end Go.Proofs.Qxb6617426a
