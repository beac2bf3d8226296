/-
  DERIVED. GIVEN WITH THE SEED: THE CARDS: each row of Qxb6612180aDoorRows.lean that lists a variable, with what it lists TIED to the program's text (the seventh form; the later family's looks); each row that meets fmt, with fmt's text TOLD by the authors' own Lean function (tested against real Go, not proved from fmt's source: count such statements apart). THE CARD IS WHAT COUNTS. Prove the row's statement (the work); the ties are given (Qxb6612180aDoorTie.lean); close each card by the builder's one call (the guide's Derived/Test/ToyasCard.lean, 'card_holds'). Laid BY PROGRAM, IN A SANDBOX (cutbox-door.mjs). By AI agents, Wed Nov 11 2026. No macro, syntax, notation, axiom, sorry.
-/
import Derived.Test.Qxb6612180aDoorRows
import GoSem.ClaimSeven
namespace Go.Proofs.Qxb6612180aDoor
namespace Rows

/-- THE TIED CARD OF 'zzlaws_decimal_b1.FnFormatMatchesDigitStringRounding'. -/
def fnFormatMatchesDigitStringRoundingCard : Claim7 := { stood := { row := fnFormatMatchesDigitStringRoundingRow, standIns := [], harness := (true, "28b537f4d807bb026c7d723c20f74fcf9d9df55b4966ac04304effa00398877e"), looks := false }, kinds := [], alts := [], laidByText := true, laidKinds := [.data, .data, .data, .called], laidTests := true, laidLooks := .later }
def FnFormatMatchesDigitStringRoundingCardSaid : Prop := Claim7.holds Tryd.pinned (.plain (OpenSpec.ofChange fnFormatMatchesDigitStringRoundingSpec)) fnFormatMatchesDigitStringRoundingCard

/-- THE TIED CARD OF 'zzlaws_decimal_b1.FnFormatWritesTheNearestRounding'. -/
def fnFormatWritesTheNearestRoundingCard : Claim7 := { stood := { row := fnFormatWritesTheNearestRoundingRow, standIns := [], harness := (true, "28b537f4d807bb026c7d723c20f74fcf9d9df55b4966ac04304effa00398877e"), looks := false }, kinds := [], alts := [], laidByText := true, laidKinds := [.data, .data, .data, .called], laidTests := true, laidLooks := .later }
def FnFormatWritesTheNearestRoundingCardSaid : Prop := Claim7.holds Tryd.pinned (.plain (OpenSpec.ofChange fnFormatWritesTheNearestRoundingSpec)) fnFormatWritesTheNearestRoundingCard
end Rows
end Go.Proofs.Qxb6612180aDoor
