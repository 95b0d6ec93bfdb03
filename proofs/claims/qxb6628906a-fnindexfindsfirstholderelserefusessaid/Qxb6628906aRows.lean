/-
  No cell of these rows narrows 'for every input' (looked for: loops, veiled, ifaces, maps, wideKeys, modest, calm, conditions, laid).
  DERIVED. THE GIVEN ROWS OF THIS SEAT. 2 by the template 'for every input the law returns true; each argument reads behind the call as it read before'; 0 by the template 'total and deterministic' (their statements: Qxb6628906aTotals.lean).
  GIVEN WITH THE SEED: the statements are not yours to turn. If you find one false, say at which input.
  Laid BY PROGRAM, IN A SANDBOX (cutbox-rows.mjs): the forced cells as the released guide's own fill.sh prints them over the translation 7c2ec0dac221d8f8… (all of the seat's roots in one cut). By AI agents, Wed Nov 11 2026. No macro, syntax, notation, axiom, sorry.
-/
import Derived.Test.Qxb6628906aChecked
import GoSem.Claim
import GoSem.ClaimJoined
import GoSem.ClaimMapViews
import Derived.JoinedTies
import Derived.KernelRfl
namespace Go.Proofs.Qxb6628906a
/- THE CELL 'sum', in the pinned program and in every row, IS THE sha256 OF THE DUMP (.gsa) THAT Qxb6628906aProg.lean LOADS. Nothing in Lean hashes anything: it is a label: what it is worth is what the hold of that sum in a sandbox is worth. -/
noncomputable def Try.pinned : Pinned := { name := "qxb6628906a", sum := "7c2ec0dac221d8f80f882cd23a117b9e6e23a1f51d3181ea66dd092760356fe0", checked := Try.checked }
namespace Rows
def none {H : Type} : Left H := { results := [], args := [] }

/-- 'zzlaws_register_b1.FnIndexFindsFirstHolderElseRefuses': WHATEVER THE INPUT: true; the input reads as it did. -/
def fnIndexFindsFirstHolderElseRefusesSpec : ChangeSpec := { name := "fnIndexFindsFirstHolderElseRefuses", fn := fun _ => fun
  | [d1, d2] => { results := [.lit (.bool true)], args := [d1, d2] }
  | _ => none }
def fnIndexFindsFirstHolderElseRefusesRow : OpenClaim := { program := "qxb6628906a", sum := "7c2ec0dac221d8f80f882cd23a117b9e6e23a1f51d3181ea66dd092760356fe0", func := "example.com/guanlian/guanlian/zzlaws_register_b1.FnIndexFindsFirstHolderElseRefuses", spec := "fnIndexFindsFirstHolderElseRefuses", named := ["encoding/binary.LittleEndian"], apart := false }
def FnIndexFindsFirstHolderElseRefusesSaid : Prop := fnIndexFindsFirstHolderElseRefusesRow.holds Try.pinned (OpenSpec.ofChange fnIndexFindsFirstHolderElseRefusesSpec)

/-- ITS FALSE NEIGHBOUR: 'it returns false'. Refute it at one input. -/
def fnIndexFindsFirstHolderElseRefusesWrong : ChangeSpec := { name := "fnIndexFindsFirstHolderElseRefuses", fn := fun _ => fun
  | [d1, d2] => { results := [.lit (.bool false)], args := [d1, d2] }
  | _ => none }
def FnIndexFindsFirstHolderElseRefusesWrongFalsely : Prop := fnIndexFindsFirstHolderElseRefusesRow.holds Try.pinned (OpenSpec.ofChange fnIndexFindsFirstHolderElseRefusesWrong)

/-- 'zzlaws_register_b1.FnIndexOfIDRoundTrip': WHATEVER THE INPUT: true; the input reads as it did. -/
def fnIndexOfIDRoundTripSpec : ChangeSpec := { name := "fnIndexOfIDRoundTrip", fn := fun _ => fun
  | [d1, d2] => { results := [.lit (.bool true)], args := [d1, d2] }
  | _ => none }
def fnIndexOfIDRoundTripRow : OpenClaim := { program := "qxb6628906a", sum := "7c2ec0dac221d8f80f882cd23a117b9e6e23a1f51d3181ea66dd092760356fe0", func := "example.com/guanlian/guanlian/zzlaws_register_b1.FnIndexOfIDRoundTrip", spec := "fnIndexOfIDRoundTrip", named := ["encoding/binary.LittleEndian"], apart := false }
def FnIndexOfIDRoundTripSaid : Prop := fnIndexOfIDRoundTripRow.holds Try.pinned (OpenSpec.ofChange fnIndexOfIDRoundTripSpec)

/-- ITS FALSE NEIGHBOUR: 'it returns false'. Refute it at one input. -/
def fnIndexOfIDRoundTripWrong : ChangeSpec := { name := "fnIndexOfIDRoundTrip", fn := fun _ => fun
  | [d1, d2] => { results := [.lit (.bool false)], args := [d1, d2] }
  | _ => none }
def FnIndexOfIDRoundTripWrongFalsely : Prop := fnIndexOfIDRoundTripRow.holds Try.pinned (OpenSpec.ofChange fnIndexOfIDRoundTripWrong)

end Rows
end Go.Proofs.Qxb6628906a
