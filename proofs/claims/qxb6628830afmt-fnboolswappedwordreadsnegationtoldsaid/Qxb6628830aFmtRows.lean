/-
  No cell of these rows narrows 'for every input' (looked for: loops, veiled, ifaces, maps, wideKeys, modest, calm, conditions, laid).
  DERIVED. THE GIVEN ROWS OF THIS SEAT. 2 by the template 'for every input the law returns true; each argument reads behind the call as it read before'; 0 by the template 'total and deterministic' (their statements: Qxb6628830aFmtTotals.lean).
  GIVEN WITH THE SEED: the statements are not yours to turn. If you find one false, say at which input.
  Laid BY PROGRAM, IN A SANDBOX (cutbox-rows.mjs): the forced cells as the released guide's own fill.sh prints them over the translation 1e76e80b5aef4cfd… (all of the seat's roots in one cut). By AI agents, Wed Nov 11 2026. No macro, syntax, notation, axiom, sorry.
-/
import Derived.Test.Qxb6628830aFmtChecked
import GoSem.Claim
import GoSem.ClaimJoined
import GoSem.ClaimMapViews
import Derived.JoinedTies
import Derived.KernelRfl
namespace Go.Proofs.Qxb6628830aFmt
/- THE CELL 'sum', in the pinned program and in every row, IS THE sha256 OF THE DUMP (.gsa) THAT Qxb6628830aFmtProg.lean LOADS. Nothing in Lean hashes anything: it is a label: what it is worth is what the hold of that sum in a sandbox is worth. -/
noncomputable def Tryf.pinned : Pinned := { name := "qxb6628830afmt", sum := "1e76e80b5aef4cfd613f055d2ad7bb97c2da93927ef8c38a0696880f4283d70b", checked := Tryf.checked }
namespace Rows
def none {H : Type} : Left H := { results := [], args := [] }

/-- 'zzlaws_strictjson_b1.FnBoolReadsWordAfterSpace': WHATEVER THE INPUT: true; the input reads as it did. -/
def fnBoolReadsWordAfterSpaceSpec : ChangeSpec := { name := "fnBoolReadsWordAfterSpace", fn := fun _ => fun
  | [d1, d2, d3] => { results := [.lit (.bool true)], args := [d1, d2, d3] }
  | _ => none }
def fnBoolReadsWordAfterSpaceRow : OpenClaim := { program := "qxb6628830afmt", sum := "1e76e80b5aef4cfd613f055d2ad7bb97c2da93927ef8c38a0696880f4283d70b", func := "example.com/covenant/covenant/zzlaws_strictjson_b1.FnBoolReadsWordAfterSpace", spec := "fnBoolReadsWordAfterSpace", stops := ["fmt.Sprintf", "fmt.errorf"], inPlace := ["fmt.errorf", "fmt.Sprintf"], apart := false }
/-- NO THEOREM (fmt's text is open here; it may be false): for the released tool's asking of the row's closed facts alone. THE STATEMENT IS 'FnBoolReadsWordAfterSpaceToldSaid' (Qxb6628830aFmtCards.lean). -/
def FnBoolReadsWordAfterSpaceFormAsk : Prop := fnBoolReadsWordAfterSpaceRow.holds Tryf.pinned (OpenSpec.ofChange fnBoolReadsWordAfterSpaceSpec)

/-- ITS FALSE NEIGHBOUR: 'it returns false'. Refute it at one input. -/
def fnBoolReadsWordAfterSpaceWrong : ChangeSpec := { name := "fnBoolReadsWordAfterSpace", fn := fun _ => fun
  | [d1, d2, d3] => { results := [.lit (.bool false)], args := [d1, d2, d3] }
  | _ => none }
def FnBoolReadsWordAfterSpaceWrongFormAsk : Prop := fnBoolReadsWordAfterSpaceRow.holds Tryf.pinned (OpenSpec.ofChange fnBoolReadsWordAfterSpaceWrong)

/-- 'zzlaws_strictjson_b1.FnBoolSwappedWordReadsNegation': WHATEVER THE INPUT: true; the input reads as it did. -/
def fnBoolSwappedWordReadsNegationSpec : ChangeSpec := { name := "fnBoolSwappedWordReadsNegation", fn := fun _ => fun
  | [d1, d2, d3] => { results := [.lit (.bool true)], args := [d1, d2, d3] }
  | _ => none }
def fnBoolSwappedWordReadsNegationRow : OpenClaim := { program := "qxb6628830afmt", sum := "1e76e80b5aef4cfd613f055d2ad7bb97c2da93927ef8c38a0696880f4283d70b", func := "example.com/covenant/covenant/zzlaws_strictjson_b1.FnBoolSwappedWordReadsNegation", spec := "fnBoolSwappedWordReadsNegation", stops := ["fmt.Sprintf", "fmt.errorf"], inPlace := ["fmt.errorf", "fmt.Sprintf"], apart := false }
/-- NO THEOREM (fmt's text is open here; it may be false): for the released tool's asking of the row's closed facts alone. THE STATEMENT IS 'FnBoolSwappedWordReadsNegationToldSaid' (Qxb6628830aFmtCards.lean). -/
def FnBoolSwappedWordReadsNegationFormAsk : Prop := fnBoolSwappedWordReadsNegationRow.holds Tryf.pinned (OpenSpec.ofChange fnBoolSwappedWordReadsNegationSpec)

/-- ITS FALSE NEIGHBOUR: 'it returns false'. Refute it at one input. -/
def fnBoolSwappedWordReadsNegationWrong : ChangeSpec := { name := "fnBoolSwappedWordReadsNegation", fn := fun _ => fun
  | [d1, d2, d3] => { results := [.lit (.bool false)], args := [d1, d2, d3] }
  | _ => none }
def FnBoolSwappedWordReadsNegationWrongFormAsk : Prop := fnBoolSwappedWordReadsNegationRow.holds Tryf.pinned (OpenSpec.ofChange fnBoolSwappedWordReadsNegationWrong)

end Rows
end Go.Proofs.Qxb6628830aFmt
