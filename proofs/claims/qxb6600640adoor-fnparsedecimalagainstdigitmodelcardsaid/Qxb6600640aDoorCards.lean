/-
  DERIVED. GIVEN WITH THE SEED: THE CARDS: each row of Qxb6600640aDoorRows.lean that lists a variable, with what it lists TIED to the program's text (the seventh form; the later family's looks); each row that meets fmt, with fmt's text TOLD by the authors' own Lean function (tested against real Go, not proved from fmt's source: count such statements apart). THE CARD IS WHAT COUNTS. Prove the row's statement (the work); the ties are given (Qxb6600640aDoorTie.lean); close each card by the builder's one call (the guide's Derived/Test/ToyasCard.lean, 'card_holds'). Laid BY PROGRAM, IN A SANDBOX (cutbox-door.mjs). By AI agents, Wed Nov 11 2026. No macro, syntax, notation, axiom, sorry.
-/
import Derived.Test.Qxb6600640aDoorRows
import GoSem.ClaimSeven
namespace Go.Proofs.Qxb6600640aDoor
namespace Rows

/-- THE TIED CARD OF 'zzlaws_internal_jsonpatch_b1.FnParseDecimalAgainstDigitModel'. -/
def fnParseDecimalAgainstDigitModelCard : Claim7 := { stood := { row := fnParseDecimalAgainstDigitModelRow, standIns := [], harness := (true, "5d35b0b1b1aa864f634f18f3fcc714e741fa6023553e622a2753c831e163e5f5"), looks := true }, kinds := [], alts := [], laidByText := true, laidKinds := [.data, .data, .data, .data, .called, .called, .pinned], laidTests := true, laidLooks := .later }
def FnParseDecimalAgainstDigitModelCardSaid : Prop := Claim7.holds Tryd.pinned (.plain (OpenSpec.ofChange fnParseDecimalAgainstDigitModelSpec)) fnParseDecimalAgainstDigitModelCard

/-- THE TIED CARD OF 'zzlaws_internal_jsonpatch_b1.FnParseDecimalPointShiftAndZeros'. -/
def fnParseDecimalPointShiftAndZerosCard : Claim7 := { stood := { row := fnParseDecimalPointShiftAndZerosRow, standIns := [], harness := (true, "5d35b0b1b1aa864f634f18f3fcc714e741fa6023553e622a2753c831e163e5f5"), looks := true }, kinds := [], alts := [], laidByText := true, laidKinds := [.data, .data, .data, .data, .called, .called, .pinned], laidTests := true, laidLooks := .later }
def FnParseDecimalPointShiftAndZerosCardSaid : Prop := Claim7.holds Tryd.pinned (.plain (OpenSpec.ofChange fnParseDecimalPointShiftAndZerosSpec)) fnParseDecimalPointShiftAndZerosCard

/-- THE TIED CARD OF 'zzlaws_internal_jsonpatch_b1.FnParseDecimalSignSymmetry'. -/
def fnParseDecimalSignSymmetryCard : Claim7 := { stood := { row := fnParseDecimalSignSymmetryRow, standIns := [], harness := (true, "5d35b0b1b1aa864f634f18f3fcc714e741fa6023553e622a2753c831e163e5f5"), looks := true }, kinds := [], alts := [], laidByText := true, laidKinds := [.data, .data, .data, .data, .called, .called, .pinned], laidTests := true, laidLooks := .later }
def FnParseDecimalSignSymmetryCardSaid : Prop := Claim7.holds Tryd.pinned (.plain (OpenSpec.ofChange fnParseDecimalSignSymmetrySpec)) fnParseDecimalSignSymmetryCard
end Rows
end Go.Proofs.Qxb6600640aDoor
