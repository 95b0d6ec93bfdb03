/-
  No cell of these rows narrows 'for every input' (looked for: loops, veiled, ifaces, maps, wideKeys, modest, calm, conditions, laid).
  DERIVED. THE GIVEN ROWS OF THIS SEAT. 2 by the template 'for every input the law returns true; each argument reads behind the call as it read before'; 0 by the template 'total and deterministic' (their statements: Qxb6628777aTotals.lean).
  GIVEN WITH THE SEED: the statements are not yours to turn. If you find one false, say at which input.
  Laid BY PROGRAM, IN A SANDBOX (cutbox-rows.mjs): the forced cells as the released guide's own fill.sh prints them over the translation 8f4095dc4e4c356f… (all of the seat's roots in one cut). By AI agents, Wed Nov 11 2026. No macro, syntax, notation, axiom, sorry.
-/
import Derived.Test.Qxb6628777aChecked
import GoSem.Claim
import GoSem.ClaimJoined
import GoSem.ClaimMapViews
import Derived.JoinedTies
import Derived.KernelRfl
namespace Go.Proofs.Qxb6628777a
/- THE CELL 'sum', in the pinned program and in every row, IS THE sha256 OF THE DUMP (.gsa) THAT Qxb6628777aProg.lean LOADS. Nothing in Lean hashes anything: it is a label: what it is worth is what the hold of that sum in a sandbox is worth. -/
noncomputable def Try.pinned : Pinned := { name := "qxb6628777a", sum := "8f4095dc4e4c356f0cab298aa95cbfb7a9a59d04e477d6592d5ae51cdf8862d2", checked := Try.checked }
namespace Rows
def none {H : Type} : Left H := { results := [], args := [] }

/-- 'zzlaws_endpoint_b1.FnOAuthEqualCopyEqualsAndInsertedScopeDiffers': WHATEVER THE INPUT: true; the input reads as it did. -/
def fnOAuthEqualCopyEqualsAndInsertedScopeDiffersSpec : ChangeSpec := { name := "fnOAuthEqualCopyEqualsAndInsertedScopeDiffers", fn := fun _ => fun
  | [d1, d2, d3, d4, d5, d6] => { results := [.lit (.bool true)], args := [d1, d2, d3, d4, d5, d6] }
  | _ => none }
def fnOAuthEqualCopyEqualsAndInsertedScopeDiffersRow : OpenClaim := { program := "qxb6628777a", sum := "8f4095dc4e4c356f0cab298aa95cbfb7a9a59d04e477d6592d5ae51cdf8862d2", func := "example.com/budbringer/budbringer/zzlaws_endpoint_b1.FnOAuthEqualCopyEqualsAndInsertedScopeDiffers", spec := "fnOAuthEqualCopyEqualsAndInsertedScopeDiffers", apart := false }
def FnOAuthEqualCopyEqualsAndInsertedScopeDiffersSaid : Prop := fnOAuthEqualCopyEqualsAndInsertedScopeDiffersRow.holds Try.pinned (OpenSpec.ofChange fnOAuthEqualCopyEqualsAndInsertedScopeDiffersSpec)

/-- ITS FALSE NEIGHBOUR: 'it returns false'. Refute it at one input. -/
def fnOAuthEqualCopyEqualsAndInsertedScopeDiffersWrong : ChangeSpec := { name := "fnOAuthEqualCopyEqualsAndInsertedScopeDiffers", fn := fun _ => fun
  | [d1, d2, d3, d4, d5, d6] => { results := [.lit (.bool false)], args := [d1, d2, d3, d4, d5, d6] }
  | _ => none }
def FnOAuthEqualCopyEqualsAndInsertedScopeDiffersWrongFalsely : Prop := fnOAuthEqualCopyEqualsAndInsertedScopeDiffersRow.holds Try.pinned (OpenSpec.ofChange fnOAuthEqualCopyEqualsAndInsertedScopeDiffersWrong)

/-- 'zzlaws_endpoint_b1.FnOAuthEqualOneFieldChangedEqualsIffSameValue': WHATEVER THE INPUT: true; the input reads as it did. -/
def fnOAuthEqualOneFieldChangedEqualsIffSameValueSpec : ChangeSpec := { name := "fnOAuthEqualOneFieldChangedEqualsIffSameValue", fn := fun _ => fun
  | [d1, d2, d3, d4, d5, d6, d7] => { results := [.lit (.bool true)], args := [d1, d2, d3, d4, d5, d6, d7] }
  | _ => none }
def fnOAuthEqualOneFieldChangedEqualsIffSameValueRow : OpenClaim := { program := "qxb6628777a", sum := "8f4095dc4e4c356f0cab298aa95cbfb7a9a59d04e477d6592d5ae51cdf8862d2", func := "example.com/budbringer/budbringer/zzlaws_endpoint_b1.FnOAuthEqualOneFieldChangedEqualsIffSameValue", spec := "fnOAuthEqualOneFieldChangedEqualsIffSameValue", apart := false }
def FnOAuthEqualOneFieldChangedEqualsIffSameValueSaid : Prop := fnOAuthEqualOneFieldChangedEqualsIffSameValueRow.holds Try.pinned (OpenSpec.ofChange fnOAuthEqualOneFieldChangedEqualsIffSameValueSpec)

/-- ITS FALSE NEIGHBOUR: 'it returns false'. Refute it at one input. -/
def fnOAuthEqualOneFieldChangedEqualsIffSameValueWrong : ChangeSpec := { name := "fnOAuthEqualOneFieldChangedEqualsIffSameValue", fn := fun _ => fun
  | [d1, d2, d3, d4, d5, d6, d7] => { results := [.lit (.bool false)], args := [d1, d2, d3, d4, d5, d6, d7] }
  | _ => none }
def FnOAuthEqualOneFieldChangedEqualsIffSameValueWrongFalsely : Prop := fnOAuthEqualOneFieldChangedEqualsIffSameValueRow.holds Try.pinned (OpenSpec.ofChange fnOAuthEqualOneFieldChangedEqualsIffSameValueWrong)

end Rows
end Go.Proofs.Qxb6628777a
