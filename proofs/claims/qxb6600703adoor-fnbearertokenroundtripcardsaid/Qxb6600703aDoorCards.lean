/-
  DERIVED. GIVEN WITH THE SEED: THE CARDS: each row of Qxb6600703aDoorRows.lean that lists a variable, with what it lists TIED to the program's text (the seventh form; the later family's looks); each row that meets fmt, with fmt's text TOLD by the authors' own Lean function (tested against real Go, not proved from fmt's source: count such statements apart). THE CARD IS WHAT COUNTS. Prove the row's statement (the work); the ties are given (Qxb6600703aDoorTie.lean); close each card by the builder's one call (the guide's Derived/Test/ToyasCard.lean, 'card_holds'). Laid BY PROGRAM, IN A SANDBOX (cutbox-door.mjs). By AI agents, Wed Nov 11 2026. No macro, syntax, notation, axiom, sorry.
-/
import Derived.Test.Qxb6600703aDoorRows
import GoSem.ClaimSeven
namespace Go.Proofs.Qxb6600703aDoor
namespace Rows

/-- THE TIED CARD OF 'zzlaws_root_b1.FnBearerTokenRoundTrip'. -/
def fnBearerTokenRoundTripCard : Claim7 := { stood := { row := fnBearerTokenRoundTripRow, standIns := [], harness := (true, "cc4c0e502f2574603fd8cfa7295d8a55f5864555e232a2044b78f18eba0f1541"), looks := false }, kinds := [], alts := [], laidByText := true, laidKinds := [.data, .data, .data, .pinned, .pinned], laidTests := true, laidLooks := .later }
def FnBearerTokenRoundTripCardSaid : Prop := Claim7.holds Tryd.pinned (.plain (OpenSpec.ofChange fnBearerTokenRoundTripSpec)) fnBearerTokenRoundTripCard

/-- THE TIED CARD OF 'zzlaws_root_b1.FnBearerTokenRewrap'. -/
def fnBearerTokenRewrapCard : Claim7 := { stood := { row := fnBearerTokenRewrapRow, standIns := [], harness := (true, "cc4c0e502f2574603fd8cfa7295d8a55f5864555e232a2044b78f18eba0f1541"), looks := false }, kinds := [], alts := [], laidByText := true, laidKinds := [.data, .data, .data, .pinned, .pinned], laidTests := true, laidLooks := .later }
def FnBearerTokenRewrapCardSaid : Prop := Claim7.holds Tryd.pinned (.plain (OpenSpec.ofChange fnBearerTokenRewrapSpec)) fnBearerTokenRewrapCard

/-- THE TIED CARD OF 'zzlaws_root_b1.FnScopesWithinAnswerOwnsItsList'. -/
def fnScopesWithinAnswerOwnsItsListCard : Claim7 := { stood := { row := fnScopesWithinAnswerOwnsItsListRow, standIns := [], harness := (true, "cc4c0e502f2574603fd8cfa7295d8a55f5864555e232a2044b78f18eba0f1541"), looks := false }, kinds := [], alts := [], laidByText := true, laidKinds := [.listed, .data], laidTests := true, laidLooks := .later }
def FnScopesWithinAnswerOwnsItsListCardSaid : Prop := Claim7.holds Tryd.pinned (.plain (OpenSpec.ofChange fnScopesWithinAnswerOwnsItsListSpec)) fnScopesWithinAnswerOwnsItsListCard

/-- THE TIED CARD OF 'zzlaws_root_b1.FnScopesWithinMonotone'. -/
def fnScopesWithinMonotoneCard : Claim7 := { stood := { row := fnScopesWithinMonotoneRow, standIns := [], harness := (true, "cc4c0e502f2574603fd8cfa7295d8a55f5864555e232a2044b78f18eba0f1541"), looks := false }, kinds := [], alts := [], laidByText := true, laidKinds := [.listed, .data], laidTests := true, laidLooks := .later }
def FnScopesWithinMonotoneCardSaid : Prop := Claim7.holds Tryd.pinned (.plain (OpenSpec.ofChange fnScopesWithinMonotoneSpec)) fnScopesWithinMonotoneCard
end Rows
end Go.Proofs.Qxb6600703aDoor
