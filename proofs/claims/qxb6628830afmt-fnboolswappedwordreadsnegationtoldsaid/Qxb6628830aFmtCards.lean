/-
  DERIVED. GIVEN WITH THE SEED: THE CARDS: each row of Qxb6628830aFmtRows.lean that lists a variable, with what it lists TIED to the program's text (the seventh form; the later family's looks); each row that meets fmt, with fmt's text TOLD by the authors' own Lean function (tested against real Go, not proved from fmt's source: count such statements apart). THE CARD IS WHAT COUNTS. Prove the row's statement (the work); the ties are given (Qxb6628830aFmtTie.lean); close each card by the builder's one call (the guide's Derived/Test/ToyasCard.lean, 'card_holds'). Laid BY PROGRAM, IN A SANDBOX (cutbox-door.mjs). By AI agents, Wed Nov 11 2026. No macro, syntax, notation, axiom, sorry.
-/
import Derived.Test.Qxb6628830aFmtRows
import GoSem.ClaimSeven
namespace Go.Proofs.Qxb6628830aFmt
namespace Rows

/-- THE TOLD CARD OF 'zzlaws_strictjson_b1.FnBoolReadsWordAfterSpace'. -/
def fnBoolReadsWordAfterSpaceCard : Claim7 := { stood := { row := fnBoolReadsWordAfterSpaceRow, standIns := [], harness := (true, "769e537c503579d314390376c9eca8c8da6e699d334e3c6a349b0745e7a00bab"), looks := false }, told := true, goes := false }
def FnBoolReadsWordAfterSpaceToldSaid : Prop := Claim7.holds Tryf.pinned (.plain (OpenSpec.ofChange fnBoolReadsWordAfterSpaceSpec)) fnBoolReadsWordAfterSpaceCard
/-- ITS FALSE NEIGHBOUR. Refute it at one input. -/
def FnBoolReadsWordAfterSpaceToldWrongFalsely : Prop := Claim7.holds Tryf.pinned (.plain (OpenSpec.ofChange fnBoolReadsWordAfterSpaceWrong)) fnBoolReadsWordAfterSpaceCard

/-- THE TOLD CARD OF 'zzlaws_strictjson_b1.FnBoolSwappedWordReadsNegation'. -/
def fnBoolSwappedWordReadsNegationCard : Claim7 := { stood := { row := fnBoolSwappedWordReadsNegationRow, standIns := [], harness := (true, "769e537c503579d314390376c9eca8c8da6e699d334e3c6a349b0745e7a00bab"), looks := false }, told := true, goes := false }
def FnBoolSwappedWordReadsNegationToldSaid : Prop := Claim7.holds Tryf.pinned (.plain (OpenSpec.ofChange fnBoolSwappedWordReadsNegationSpec)) fnBoolSwappedWordReadsNegationCard
/-- ITS FALSE NEIGHBOUR. Refute it at one input. -/
def FnBoolSwappedWordReadsNegationToldWrongFalsely : Prop := Claim7.holds Tryf.pinned (.plain (OpenSpec.ofChange fnBoolSwappedWordReadsNegationWrong)) fnBoolSwappedWordReadsNegationCard
end Rows
end Go.Proofs.Qxb6628830aFmt
