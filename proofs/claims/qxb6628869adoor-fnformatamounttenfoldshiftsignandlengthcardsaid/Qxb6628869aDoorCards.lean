/-
  DERIVED. GIVEN WITH THE SEED: THE CARDS: each row of Qxb6628869aDoorRows.lean that lists a variable, with what it lists TIED to the program's text (the seventh form; the later family's looks); each row that meets fmt, with fmt's text TOLD by the authors' own Lean function (tested against real Go, not proved from fmt's source: count such statements apart). THE CARD IS WHAT COUNTS. Prove the row's statement (the work); the ties are given (Qxb6628869aDoorTie.lean); close each card by the builder's one call (the guide's Derived/Test/ToyasCard.lean, 'card_holds'). Laid BY PROGRAM, IN A SANDBOX (cutbox-door.mjs). By AI agents, Wed Nov 11 2026. No macro, syntax, notation, axiom, sorry.
-/
import Derived.Test.Qxb6628869aDoorRows
import GoSem.ClaimSeven
namespace Go.Proofs.Qxb6628869aDoor
namespace Rows

/-- THE TIED CARD OF 'zzlaws_money_b1.FnFormatAmountReadsBackExactly'. -/
def fnFormatAmountReadsBackExactlyCard : Claim7 := { stood := { row := fnFormatAmountReadsBackExactlyRow, standIns := [], harness := (true, "a46cfd023b63665e1385a13236e7515b4d2e2333e74aa5968cb5dad51d07a4b8"), looks := false }, kinds := [], alts := [], laidByText := true, laidKinds := [.data, .data, .data], laidTests := true, laidLooks := .later }
def FnFormatAmountReadsBackExactlyCardSaid : Prop := Claim7.holds Tryd.pinned (.plain (OpenSpec.ofChange fnFormatAmountReadsBackExactlySpec)) fnFormatAmountReadsBackExactlyCard

/-- THE TIED CARD OF 'zzlaws_money_b1.FnFormatAmountTenfoldShiftSignAndLength'. -/
def fnFormatAmountTenfoldShiftSignAndLengthCard : Claim7 := { stood := { row := fnFormatAmountTenfoldShiftSignAndLengthRow, standIns := [], harness := (true, "a46cfd023b63665e1385a13236e7515b4d2e2333e74aa5968cb5dad51d07a4b8"), looks := false }, kinds := [], alts := [], laidByText := true, laidKinds := [.data, .data, .data], laidTests := true, laidLooks := .later }
def FnFormatAmountTenfoldShiftSignAndLengthCardSaid : Prop := Claim7.holds Tryd.pinned (.plain (OpenSpec.ofChange fnFormatAmountTenfoldShiftSignAndLengthSpec)) fnFormatAmountTenfoldShiftSignAndLengthCard
end Rows
end Go.Proofs.Qxb6628869aDoor
