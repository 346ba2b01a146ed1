/-
  DERIVED. GIVEN WITH THE SEED: THE CARDS: each row of Qxb6601460aDoorRows.lean that lists a variable, with what it lists TIED to the program's text (the seventh form; the later family's looks); each row that meets fmt, with fmt's text TOLD by the authors' own Lean function (tested against real Go, not proved from fmt's source: count such statements apart). THE CARD IS WHAT COUNTS. Prove the row's statement (the work); the ties are given (Qxb6601460aDoorTie.lean); close each card by the builder's one call (the guide's Derived/Test/ToyasCard.lean, 'card_holds'). Laid BY PROGRAM, IN A SANDBOX (cutbox-door.mjs). By AI agents, Wed Nov 11 2026. No macro, syntax, notation, axiom, sorry.
-/
import Derived.Test.Qxb6601460aDoorRows
import GoSem.ClaimSeven
namespace Go.Proofs.Qxb6601460aDoor
namespace Rows

/-- THE TIED CARD OF 'zzlaws_internal_compare_b1.FnConvertedShape'. -/
def fnConvertedShapeCard : Claim7 := { stood := { row := fnConvertedShapeRow, standIns := [], harness := (true, "3d712e754abe21193fc0168b590c494bfa171a62c20753d83e23b4c13c3294f9"), looks := false }, kinds := [], alts := [], laidByText := true, laidKinds := [.data, .pinned, .pinned], laidTests := true, laidLooks := .later }
def FnConvertedShapeCardSaid : Prop := Claim7.holds Tryd.pinned (.plain (OpenSpec.ofChange fnConvertedShapeSpec)) fnConvertedShapeCard

/-- THE TIED CARD OF 'zzlaws_internal_compare_b1.FnConvertedArgsOnly'. -/
def fnConvertedArgsOnlyCard : Claim7 := { stood := { row := fnConvertedArgsOnlyRow, standIns := [], harness := (true, "3d712e754abe21193fc0168b590c494bfa171a62c20753d83e23b4c13c3294f9"), looks := false }, kinds := [], alts := [], laidByText := true, laidKinds := [.data, .pinned, .pinned], laidTests := true, laidLooks := .later }
def FnConvertedArgsOnlyCardSaid : Prop := Claim7.holds Tryd.pinned (.plain (OpenSpec.ofChange fnConvertedArgsOnlySpec)) fnConvertedArgsOnlyCard

/-- THE TIED CARD OF 'zzlaws_internal_compare_b1.FnConvertedInjectiveInValue'. -/
def fnConvertedInjectiveInValueCard : Claim7 := { stood := { row := fnConvertedInjectiveInValueRow, standIns := [], harness := (true, "3d712e754abe21193fc0168b590c494bfa171a62c20753d83e23b4c13c3294f9"), looks := false }, kinds := [], alts := [], laidByText := true, laidKinds := [.data, .pinned, .pinned], laidTests := true, laidLooks := .later }
def FnConvertedInjectiveInValueCardSaid : Prop := Claim7.holds Tryd.pinned (.plain (OpenSpec.ofChange fnConvertedInjectiveInValueSpec)) fnConvertedInjectiveInValueCard
end Rows
end Go.Proofs.Qxb6601460aDoor
