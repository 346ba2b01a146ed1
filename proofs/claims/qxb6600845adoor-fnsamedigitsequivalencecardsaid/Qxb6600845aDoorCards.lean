/-
  DERIVED. GIVEN WITH THE SEED: THE CARDS: each row of Qxb6600845aDoorRows.lean that lists a variable, with what it lists TIED to the program's text (the seventh form; the later family's looks); each row that meets fmt, with fmt's text TOLD by the authors' own Lean function (tested against real Go, not proved from fmt's source: count such statements apart). THE CARD IS WHAT COUNTS. Prove the row's statement (the work); the ties are given (Qxb6600845aDoorTie.lean); close each card by the builder's one call (the guide's Derived/Test/ToyasCard.lean, 'card_holds'). Laid BY PROGRAM, IN A SANDBOX (cutbox-door.mjs). By AI agents, Wed Nov 11 2026. No macro, syntax, notation, axiom, sorry.
-/
import Derived.Test.Qxb6600845aDoorRows
import GoSem.ClaimSeven
namespace Go.Proofs.Qxb6600845aDoor
namespace Rows

/-- THE TIED CARD OF 'zzlaws_jcs_b1.FnSameDigitsSpec'. -/
def fnSameDigitsSpecCard : Claim7 := { stood := { row := fnSameDigitsSpecRow, standIns := [], harness := (true, "4d18ea53f8f2949ec93e88e1cdab0f5fb9a4d055aa0622aad46e248e9ef329e3"), looks := false }, kinds := [], alts := [], laidByText := true, laidKinds := [.data, .pinned], laidTests := true, laidLooks := .later }
def FnSameDigitsSpecCardSaid : Prop := Claim7.holds Tryd.pinned (.plain (OpenSpec.ofChange fnSameDigitsSpecSpec)) fnSameDigitsSpecCard

/-- THE TIED CARD OF 'zzlaws_jcs_b1.FnSameDigitsEquivalence'. -/
def fnSameDigitsEquivalenceCard : Claim7 := { stood := { row := fnSameDigitsEquivalenceRow, standIns := [], harness := (true, "4d18ea53f8f2949ec93e88e1cdab0f5fb9a4d055aa0622aad46e248e9ef329e3"), looks := false }, kinds := [], alts := [], laidByText := true, laidKinds := [.data, .pinned], laidTests := true, laidLooks := .later }
def FnSameDigitsEquivalenceCardSaid : Prop := Claim7.holds Tryd.pinned (.plain (OpenSpec.ofChange fnSameDigitsEquivalenceSpec)) fnSameDigitsEquivalenceCard
end Rows
end Go.Proofs.Qxb6600845aDoor
