/-
  NARROWER THAN 'FOR EVERY INPUT', by the rows' own cells (each row's printed sentence says how): FnConvertedShape: laid · FnConvertedArgsOnly: laid · FnConvertedInjectiveInValue: laid.
  DERIVED. THE GIVEN ROWS OF THIS SEAT. 3 by the template 'for every input the law returns true; each argument reads behind the call as it read before'; 0 by the template 'total and deterministic' (their statements: Qxb6601460aDoorTotals.lean).
  GIVEN WITH THE SEED: the statements are not yours to turn. If you find one false, say at which input.
  Laid BY PROGRAM, IN A SANDBOX (cutbox-rows.mjs): the forced cells as the released guide's own fill.sh prints them over the translation a2118ac2256a7d5b… (all of the seat's roots in one cut). By AI agents, Wed Nov 11 2026. No macro, syntax, notation, axiom, sorry.
-/
import Derived.Test.Qxb6601460aDoorChecked
import GoSem.PinnedTables
import GoSem.Claim
import GoSem.ClaimJoined
import GoSem.ClaimMapViews
import Derived.JoinedTies
import Derived.KernelRfl
namespace Go.Proofs.Qxb6601460aDoor
/- THE CELL 'sum', in the pinned program and in every row, IS THE sha256 OF THE DUMP (.gsa) THAT Qxb6601460aDoorProg.lean LOADS. Nothing in Lean hashes anything: it is a label: what it is worth is what the hold of that sum in a sandbox is worth. -/
noncomputable def Tryd.pinned : Pinned := { name := "qxb6601460adoor", sum := "a2118ac2256a7d5b9a9211d32d3133a561f58b346826f8620c0485af89dd8620", checked := Tryd.checked }
namespace Rows
def none {H : Type} : Left H := { results := [], args := [] }

/- WHAT THE LISTED PACKAGE-LEVEL VARIABLES READ AS WHEN THE CALL BEGINS. Each datum BY PROGRAM (the guide's laid-datum.mjs) off the statement by which the dump's own 'gosem.cut.vars' lays the variable. In a bare row this is a premise. The card (Qxb6601460aDoorCards.lean) ties it to the program's text. -/
def laid_unicode_utf8_acceptRanges {H : Type} : DataW H := .agg [.agg [.lit (.int .u8 128), .lit (.int .u8 191)], .agg [.lit (.int .u8 160), .lit (.int .u8 191)], .agg [.lit (.int .u8 128), .lit (.int .u8 159)], .agg [.lit (.int .u8 144), .lit (.int .u8 191)], .agg [.lit (.int .u8 128), .lit (.int .u8 143)], .agg [.lit (.int .u8 0), .lit (.int .u8 0)], .agg [.lit (.int .u8 0), .lit (.int .u8 0)], .agg [.lit (.int .u8 0), .lit (.int .u8 0)], .agg [.lit (.int .u8 0), .lit (.int .u8 0)], .agg [.lit (.int .u8 0), .lit (.int .u8 0)], .agg [.lit (.int .u8 0), .lit (.int .u8 0)], .agg [.lit (.int .u8 0), .lit (.int .u8 0)], .agg [.lit (.int .u8 0), .lit (.int .u8 0)], .agg [.lit (.int .u8 0), .lit (.int .u8 0)], .agg [.lit (.int .u8 0), .lit (.int .u8 0)], .agg [.lit (.int .u8 0), .lit (.int .u8 0)]]
/-- One of Go's own tables, pinned by name: the form's constant. -/
def laid_unicode_CaseRanges : DataW Unit := Go.Pinned.caseRanges
/-- One of Go's own tables, pinned by name: the form's constant. -/
def laid_unicode_utf8_first : DataW Unit := Go.Pinned.utf8First

/-- 'zzlaws_internal_compare_b1.FnConvertedShape': WHATEVER THE INPUT: true; the input reads as it did. -/
def fnConvertedShapeSpec : ChangeSpec := { name := "fnConvertedShape", fn := fun _ => fun
  | [d1, d2, d3] => { results := [.lit (.bool true)], args := [d1, d2, d3] }
  | _ => none }
def fnConvertedShapeRow : OpenClaim := { program := "qxb6601460adoor", sum := "a2118ac2256a7d5b9a9211d32d3133a561f58b346826f8620c0485af89dd8620", func := "example.com/tideshift/tideshift/zzlaws_internal_compare_b1.FnConvertedShape", spec := "fnConvertedShape", inPlace := ["internal/bytealg.IndexByteString", "internal/bytealg.IndexString", "internal/abi.NoEscape", "internal/bytealg.MakeNoZero"], unfollowed := true, recurses := true, named := ["internal/bytealg.MaxLen", "unicode/utf8.first", "unicode/utf8.acceptRanges", "unicode.CaseRanges"], apart := false, laid := [("unicode/utf8.acceptRanges", laid_unicode_utf8_acceptRanges), ("unicode.CaseRanges", laid_unicode_CaseRanges), ("unicode/utf8.first", laid_unicode_utf8_first)] }
def FnConvertedShapeSaid : Prop := fnConvertedShapeRow.holds Tryd.pinned (OpenSpec.ofChange fnConvertedShapeSpec)

/-- ITS FALSE NEIGHBOUR: 'it returns false'. Refute it at one input. -/
def fnConvertedShapeWrong : ChangeSpec := { name := "fnConvertedShape", fn := fun _ => fun
  | [d1, d2, d3] => { results := [.lit (.bool false)], args := [d1, d2, d3] }
  | _ => none }
def FnConvertedShapeWrongFalsely : Prop := fnConvertedShapeRow.holds Tryd.pinned (OpenSpec.ofChange fnConvertedShapeWrong)

/-- 'zzlaws_internal_compare_b1.FnConvertedArgsOnly': WHATEVER THE INPUT: true; the input reads as it did. -/
def fnConvertedArgsOnlySpec : ChangeSpec := { name := "fnConvertedArgsOnly", fn := fun _ => fun
  | [d1, d2, d3] => { results := [.lit (.bool true)], args := [d1, d2, d3] }
  | _ => none }
def fnConvertedArgsOnlyRow : OpenClaim := { program := "qxb6601460adoor", sum := "a2118ac2256a7d5b9a9211d32d3133a561f58b346826f8620c0485af89dd8620", func := "example.com/tideshift/tideshift/zzlaws_internal_compare_b1.FnConvertedArgsOnly", spec := "fnConvertedArgsOnly", inPlace := ["internal/bytealg.IndexByteString", "internal/bytealg.IndexString", "internal/abi.NoEscape", "internal/bytealg.MakeNoZero"], unfollowed := true, recurses := true, named := ["internal/bytealg.MaxLen", "unicode/utf8.first", "unicode/utf8.acceptRanges", "unicode.CaseRanges"], apart := false, laid := [("unicode/utf8.acceptRanges", laid_unicode_utf8_acceptRanges), ("unicode.CaseRanges", laid_unicode_CaseRanges), ("unicode/utf8.first", laid_unicode_utf8_first)] }
def FnConvertedArgsOnlySaid : Prop := fnConvertedArgsOnlyRow.holds Tryd.pinned (OpenSpec.ofChange fnConvertedArgsOnlySpec)

/-- ITS FALSE NEIGHBOUR: 'it returns false'. Refute it at one input. -/
def fnConvertedArgsOnlyWrong : ChangeSpec := { name := "fnConvertedArgsOnly", fn := fun _ => fun
  | [d1, d2, d3] => { results := [.lit (.bool false)], args := [d1, d2, d3] }
  | _ => none }
def FnConvertedArgsOnlyWrongFalsely : Prop := fnConvertedArgsOnlyRow.holds Tryd.pinned (OpenSpec.ofChange fnConvertedArgsOnlyWrong)

/-- 'zzlaws_internal_compare_b1.FnConvertedInjectiveInValue': WHATEVER THE INPUT: true; the input reads as it did. -/
def fnConvertedInjectiveInValueSpec : ChangeSpec := { name := "fnConvertedInjectiveInValue", fn := fun _ => fun
  | [d1, d2, d3, d4] => { results := [.lit (.bool true)], args := [d1, d2, d3, d4] }
  | _ => none }
def fnConvertedInjectiveInValueRow : OpenClaim := { program := "qxb6601460adoor", sum := "a2118ac2256a7d5b9a9211d32d3133a561f58b346826f8620c0485af89dd8620", func := "example.com/tideshift/tideshift/zzlaws_internal_compare_b1.FnConvertedInjectiveInValue", spec := "fnConvertedInjectiveInValue", inPlace := ["internal/bytealg.IndexByteString", "internal/bytealg.IndexString", "internal/abi.NoEscape", "internal/bytealg.MakeNoZero"], unfollowed := true, recurses := true, named := ["internal/bytealg.MaxLen", "unicode/utf8.first", "unicode/utf8.acceptRanges", "unicode.CaseRanges"], apart := false, laid := [("unicode/utf8.acceptRanges", laid_unicode_utf8_acceptRanges), ("unicode.CaseRanges", laid_unicode_CaseRanges), ("unicode/utf8.first", laid_unicode_utf8_first)] }
def FnConvertedInjectiveInValueSaid : Prop := fnConvertedInjectiveInValueRow.holds Tryd.pinned (OpenSpec.ofChange fnConvertedInjectiveInValueSpec)

/-- ITS FALSE NEIGHBOUR: 'it returns false'. Refute it at one input. -/
def fnConvertedInjectiveInValueWrong : ChangeSpec := { name := "fnConvertedInjectiveInValue", fn := fun _ => fun
  | [d1, d2, d3, d4] => { results := [.lit (.bool false)], args := [d1, d2, d3, d4] }
  | _ => none }
def FnConvertedInjectiveInValueWrongFalsely : Prop := fnConvertedInjectiveInValueRow.holds Tryd.pinned (OpenSpec.ofChange fnConvertedInjectiveInValueWrong)

end Rows
end Go.Proofs.Qxb6601460aDoor
