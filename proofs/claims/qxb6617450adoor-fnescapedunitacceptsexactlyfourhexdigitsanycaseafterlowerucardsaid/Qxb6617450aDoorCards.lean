/-
  DERIVED. GIVEN WITH THE SEED: THE CARDS: each row of Qxb6617450aDoorRows.lean that lists a variable, with what it lists TIED to the program's text (the seventh form; the later family's looks); each row that meets fmt, with fmt's text TOLD by the authors' own Lean function (tested against real Go, not proved from fmt's source: count such statements apart). THE CARD IS WHAT COUNTS. Prove the row's statement (the work); the ties are given (Qxb6617450aDoorTie.lean); close each card by the builder's one call (the guide's Derived/Test/ToyasCard.lean, 'card_holds'). Laid BY PROGRAM, IN A SANDBOX (cutbox-door.mjs). By AI agents, Wed Nov 11 2026. No macro, syntax, notation, axiom, sorry.
-/
import Derived.Test.Qxb6617450aDoorRows
import GoSem.ClaimSeven
namespace Go.Proofs.Qxb6617450aDoor
namespace Rows

/-- THE TIED CARD OF 'zzlaws_internal_strictjson_b1.FnEscapedUnitIsPlaceValueOfItsDigits'. -/
def fnEscapedUnitIsPlaceValueOfItsDigitsCard : Claim7 := { stood := { row := fnEscapedUnitIsPlaceValueOfItsDigitsRow, standIns := [], harness := (true, "a1a18b653c936b7bd156f196347cb1dcb28a5e1ebb09f7f0722b1ffd31f4de76"), looks := true }, kinds := [], alts := [], laidByText := true, laidKinds := [.data, .data, .data, .sentinel, .sentinel], laidTests := true, laidLooks := .later }
def FnEscapedUnitIsPlaceValueOfItsDigitsCardSaid : Prop := Claim7.holds Tryd.pinned (.plain (OpenSpec.ofChange fnEscapedUnitIsPlaceValueOfItsDigitsSpec)) fnEscapedUnitIsPlaceValueOfItsDigitsCard

/-- THE TIED CARD OF 'zzlaws_internal_strictjson_b1.FnEscapedUnitAcceptsExactlyFourHexDigitsAnyCaseAfterLowerU'. -/
def fnEscapedUnitAcceptsExactlyFourHexDigitsAnyCaseAfterLowerUCard : Claim7 := { stood := { row := fnEscapedUnitAcceptsExactlyFourHexDigitsAnyCaseAfterLowerURow, standIns := [], harness := (true, "a1a18b653c936b7bd156f196347cb1dcb28a5e1ebb09f7f0722b1ffd31f4de76"), looks := true }, kinds := [], alts := [], laidByText := true, laidKinds := [.data, .data, .data, .sentinel, .sentinel], laidTests := true, laidLooks := .later }
def FnEscapedUnitAcceptsExactlyFourHexDigitsAnyCaseAfterLowerUCardSaid : Prop := Claim7.holds Tryd.pinned (.plain (OpenSpec.ofChange fnEscapedUnitAcceptsExactlyFourHexDigitsAnyCaseAfterLowerUSpec)) fnEscapedUnitAcceptsExactlyFourHexDigitsAnyCaseAfterLowerUCard
end Rows
end Go.Proofs.Qxb6617450aDoor
