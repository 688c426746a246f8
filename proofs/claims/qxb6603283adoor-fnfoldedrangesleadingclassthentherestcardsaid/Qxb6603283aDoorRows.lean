/-
  NARROWER THAN 'FOR EVERY INPUT', by the rows' own cells (each row's printed sentence says how): FnClassRangesShiftInvariant: laid · FnClassRangesEndsAtItsBracketAndIgnoresTheRest: laid · FnFoldedRangesLeadingClassThenTheRest: laid · FnFoldedRangesQuoteIsOpaque: laid · FnFoldedRangesZeroWithoutAnIFlagGroup: laid · FnFoldedRangesGrowsUnderALeadingCaseFold: laid.
  DERIVED. THE GIVEN ROWS OF THIS SEAT. 6 by the template 'for every input the law returns true; each argument reads behind the call as it read before'; 0 by the template 'total and deterministic' (their statements: Qxb6603283aDoorTotals.lean).
  GIVEN WITH THE SEED: the statements are not yours to turn. If you find one false, say at which input.
  Laid BY PROGRAM, IN A SANDBOX (cutbox-rows.mjs): the forced cells as the released guide's own fill.sh prints them over the translation 34ddd67fbbe8c6f9… (all of the seat's roots in one cut). By AI agents, Wed Nov 11 2026. No macro, syntax, notation, axiom, sorry.
-/
import Derived.Test.Qxb6603283aDoorChecked
import GoSem.PinnedTables
import GoSem.Claim
import GoSem.ClaimJoined
import GoSem.ClaimMapViews
import Derived.JoinedTies
import Derived.KernelRfl
namespace Go.Proofs.Qxb6603283aDoor
/- THE CELL 'sum', in the pinned program and in every row, IS THE sha256 OF THE DUMP (.gsa) THAT Qxb6603283aDoorProg.lean LOADS. Nothing in Lean hashes anything: it is a label: what it is worth is what the hold of that sum in a sandbox is worth. -/
noncomputable def Tryd.pinned : Pinned := { name := "qxb6603283adoor", sum := "34ddd67fbbe8c6f95c972e15eda212510e393b7eafc0db45cd60b23fc93207c1", checked := Tryd.checked }
namespace Rows
def none {H : Type} : Left H := { results := [], args := [] }

/- WHAT THE LISTED PACKAGE-LEVEL VARIABLES READ AS WHEN THE CALL BEGINS. Each datum BY PROGRAM (the guide's laid-datum.mjs) off the statement by which the dump's own 'gosem.cut.vars' lays the variable. In a bare row this is a premise. The card (Qxb6603283aDoorCards.lean) ties it to the program's text. -/
def laid_unicode_utf8_acceptRanges {H : Type} : DataW H := .agg [.agg [.lit (.int .u8 128), .lit (.int .u8 191)], .agg [.lit (.int .u8 160), .lit (.int .u8 191)], .agg [.lit (.int .u8 128), .lit (.int .u8 159)], .agg [.lit (.int .u8 144), .lit (.int .u8 191)], .agg [.lit (.int .u8 128), .lit (.int .u8 143)], .agg [.lit (.int .u8 0), .lit (.int .u8 0)], .agg [.lit (.int .u8 0), .lit (.int .u8 0)], .agg [.lit (.int .u8 0), .lit (.int .u8 0)], .agg [.lit (.int .u8 0), .lit (.int .u8 0)], .agg [.lit (.int .u8 0), .lit (.int .u8 0)], .agg [.lit (.int .u8 0), .lit (.int .u8 0)], .agg [.lit (.int .u8 0), .lit (.int .u8 0)], .agg [.lit (.int .u8 0), .lit (.int .u8 0)], .agg [.lit (.int .u8 0), .lit (.int .u8 0)], .agg [.lit (.int .u8 0), .lit (.int .u8 0)], .agg [.lit (.int .u8 0), .lit (.int .u8 0)]]
/-- One of Go's own tables, pinned by name: the form's constant. -/
def laid_unicode_utf8_first : DataW Unit := Go.Pinned.utf8First

/-- 'zzlaws_internal_regexpcost_b1.FnClassRangesShiftInvariant': WHATEVER THE INPUT: true; the input reads as it did. -/
def fnClassRangesShiftInvariantSpec : ChangeSpec := { name := "fnClassRangesShiftInvariant", fn := fun _ => fun
  | [d1, d2] => { results := [.lit (.bool true)], args := [d1, d2] }
  | _ => none }
def fnClassRangesShiftInvariantRow : OpenClaim := { program := "qxb6603283adoor", sum := "34ddd67fbbe8c6f95c972e15eda212510e393b7eafc0db45cd60b23fc93207c1", func := "example.com/binnacle/binnacle/zzlaws_internal_regexpcost_b1.FnClassRangesShiftInvariant", spec := "fnClassRangesShiftInvariant", inPlace := ["internal/bytealg.IndexByteString", "internal/bytealg.IndexString"], named := ["unicode/utf8.first", "unicode/utf8.acceptRanges", "internal/bytealg.MaxLen"], apart := false, laid := [("unicode/utf8.acceptRanges", laid_unicode_utf8_acceptRanges), ("unicode/utf8.first", laid_unicode_utf8_first)] }
def FnClassRangesShiftInvariantSaid : Prop := fnClassRangesShiftInvariantRow.holds Tryd.pinned (OpenSpec.ofChange fnClassRangesShiftInvariantSpec)

/-- ITS FALSE NEIGHBOUR: 'it returns false'. Refute it at one input. -/
def fnClassRangesShiftInvariantWrong : ChangeSpec := { name := "fnClassRangesShiftInvariant", fn := fun _ => fun
  | [d1, d2] => { results := [.lit (.bool false)], args := [d1, d2] }
  | _ => none }
def FnClassRangesShiftInvariantWrongFalsely : Prop := fnClassRangesShiftInvariantRow.holds Tryd.pinned (OpenSpec.ofChange fnClassRangesShiftInvariantWrong)

/-- 'zzlaws_internal_regexpcost_b1.FnClassRangesEndsAtItsBracketAndIgnoresTheRest': WHATEVER THE INPUT: true; the input reads as it did. -/
def fnClassRangesEndsAtItsBracketAndIgnoresTheRestSpec : ChangeSpec := { name := "fnClassRangesEndsAtItsBracketAndIgnoresTheRest", fn := fun _ => fun
  | [d1, d2] => { results := [.lit (.bool true)], args := [d1, d2] }
  | _ => none }
def fnClassRangesEndsAtItsBracketAndIgnoresTheRestRow : OpenClaim := { program := "qxb6603283adoor", sum := "34ddd67fbbe8c6f95c972e15eda212510e393b7eafc0db45cd60b23fc93207c1", func := "example.com/binnacle/binnacle/zzlaws_internal_regexpcost_b1.FnClassRangesEndsAtItsBracketAndIgnoresTheRest", spec := "fnClassRangesEndsAtItsBracketAndIgnoresTheRest", inPlace := ["internal/bytealg.IndexByteString", "internal/bytealg.IndexString"], named := ["unicode/utf8.first", "unicode/utf8.acceptRanges", "internal/bytealg.MaxLen"], apart := false, laid := [("unicode/utf8.acceptRanges", laid_unicode_utf8_acceptRanges), ("unicode/utf8.first", laid_unicode_utf8_first)] }
def FnClassRangesEndsAtItsBracketAndIgnoresTheRestSaid : Prop := fnClassRangesEndsAtItsBracketAndIgnoresTheRestRow.holds Tryd.pinned (OpenSpec.ofChange fnClassRangesEndsAtItsBracketAndIgnoresTheRestSpec)

/-- ITS FALSE NEIGHBOUR: 'it returns false'. Refute it at one input. -/
def fnClassRangesEndsAtItsBracketAndIgnoresTheRestWrong : ChangeSpec := { name := "fnClassRangesEndsAtItsBracketAndIgnoresTheRest", fn := fun _ => fun
  | [d1, d2] => { results := [.lit (.bool false)], args := [d1, d2] }
  | _ => none }
def FnClassRangesEndsAtItsBracketAndIgnoresTheRestWrongFalsely : Prop := fnClassRangesEndsAtItsBracketAndIgnoresTheRestRow.holds Tryd.pinned (OpenSpec.ofChange fnClassRangesEndsAtItsBracketAndIgnoresTheRestWrong)

/-- 'zzlaws_internal_regexpcost_b1.FnFoldedRangesLeadingClassThenTheRest': WHATEVER THE INPUT: true; the input reads as it did. -/
def fnFoldedRangesLeadingClassThenTheRestSpec : ChangeSpec := { name := "fnFoldedRangesLeadingClassThenTheRest", fn := fun _ => fun
  | [d] => { results := [.lit (.bool true)], args := [d] }
  | _ => none }
def fnFoldedRangesLeadingClassThenTheRestRow : OpenClaim := { program := "qxb6603283adoor", sum := "34ddd67fbbe8c6f95c972e15eda212510e393b7eafc0db45cd60b23fc93207c1", func := "example.com/binnacle/binnacle/zzlaws_internal_regexpcost_b1.FnFoldedRangesLeadingClassThenTheRest", spec := "fnFoldedRangesLeadingClassThenTheRest", inPlace := ["internal/bytealg.IndexByteString", "internal/bytealg.IndexString"], named := ["unicode/utf8.first", "unicode/utf8.acceptRanges", "internal/bytealg.MaxLen"], apart := false, laid := [("unicode/utf8.acceptRanges", laid_unicode_utf8_acceptRanges), ("unicode/utf8.first", laid_unicode_utf8_first)] }
def FnFoldedRangesLeadingClassThenTheRestSaid : Prop := fnFoldedRangesLeadingClassThenTheRestRow.holds Tryd.pinned (OpenSpec.ofChange fnFoldedRangesLeadingClassThenTheRestSpec)

/-- ITS FALSE NEIGHBOUR: 'it returns false'. Refute it at one input. -/
def fnFoldedRangesLeadingClassThenTheRestWrong : ChangeSpec := { name := "fnFoldedRangesLeadingClassThenTheRest", fn := fun _ => fun
  | [d] => { results := [.lit (.bool false)], args := [d] }
  | _ => none }
def FnFoldedRangesLeadingClassThenTheRestWrongFalsely : Prop := fnFoldedRangesLeadingClassThenTheRestRow.holds Tryd.pinned (OpenSpec.ofChange fnFoldedRangesLeadingClassThenTheRestWrong)

/-- 'zzlaws_internal_regexpcost_b1.FnFoldedRangesQuoteIsOpaque': WHATEVER THE INPUT: true; the input reads as it did. -/
def fnFoldedRangesQuoteIsOpaqueSpec : ChangeSpec := { name := "fnFoldedRangesQuoteIsOpaque", fn := fun _ => fun
  | [d1, d2] => { results := [.lit (.bool true)], args := [d1, d2] }
  | _ => none }
def fnFoldedRangesQuoteIsOpaqueRow : OpenClaim := { program := "qxb6603283adoor", sum := "34ddd67fbbe8c6f95c972e15eda212510e393b7eafc0db45cd60b23fc93207c1", func := "example.com/binnacle/binnacle/zzlaws_internal_regexpcost_b1.FnFoldedRangesQuoteIsOpaque", spec := "fnFoldedRangesQuoteIsOpaque", inPlace := ["internal/bytealg.IndexByteString", "internal/bytealg.IndexString"], named := ["internal/bytealg.MaxLen", "unicode/utf8.first", "unicode/utf8.acceptRanges"], apart := false, laid := [("unicode/utf8.acceptRanges", laid_unicode_utf8_acceptRanges), ("unicode/utf8.first", laid_unicode_utf8_first)] }
def FnFoldedRangesQuoteIsOpaqueSaid : Prop := fnFoldedRangesQuoteIsOpaqueRow.holds Tryd.pinned (OpenSpec.ofChange fnFoldedRangesQuoteIsOpaqueSpec)

/-- ITS FALSE NEIGHBOUR: 'it returns false'. Refute it at one input. -/
def fnFoldedRangesQuoteIsOpaqueWrong : ChangeSpec := { name := "fnFoldedRangesQuoteIsOpaque", fn := fun _ => fun
  | [d1, d2] => { results := [.lit (.bool false)], args := [d1, d2] }
  | _ => none }
def FnFoldedRangesQuoteIsOpaqueWrongFalsely : Prop := fnFoldedRangesQuoteIsOpaqueRow.holds Tryd.pinned (OpenSpec.ofChange fnFoldedRangesQuoteIsOpaqueWrong)

/-- 'zzlaws_internal_regexpcost_b1.FnFoldedRangesZeroWithoutAnIFlagGroup': WHATEVER THE INPUT: true; the input reads as it did. -/
def fnFoldedRangesZeroWithoutAnIFlagGroupSpec : ChangeSpec := { name := "fnFoldedRangesZeroWithoutAnIFlagGroup", fn := fun _ => fun
  | [d] => { results := [.lit (.bool true)], args := [d] }
  | _ => none }
def fnFoldedRangesZeroWithoutAnIFlagGroupRow : OpenClaim := { program := "qxb6603283adoor", sum := "34ddd67fbbe8c6f95c972e15eda212510e393b7eafc0db45cd60b23fc93207c1", func := "example.com/binnacle/binnacle/zzlaws_internal_regexpcost_b1.FnFoldedRangesZeroWithoutAnIFlagGroup", spec := "fnFoldedRangesZeroWithoutAnIFlagGroup", inPlace := ["internal/bytealg.IndexByteString", "internal/bytealg.IndexString"], named := ["internal/bytealg.MaxLen", "unicode/utf8.first", "unicode/utf8.acceptRanges"], apart := false, laid := [("unicode/utf8.acceptRanges", laid_unicode_utf8_acceptRanges), ("unicode/utf8.first", laid_unicode_utf8_first)] }
def FnFoldedRangesZeroWithoutAnIFlagGroupSaid : Prop := fnFoldedRangesZeroWithoutAnIFlagGroupRow.holds Tryd.pinned (OpenSpec.ofChange fnFoldedRangesZeroWithoutAnIFlagGroupSpec)

/-- ITS FALSE NEIGHBOUR: 'it returns false'. Refute it at one input. -/
def fnFoldedRangesZeroWithoutAnIFlagGroupWrong : ChangeSpec := { name := "fnFoldedRangesZeroWithoutAnIFlagGroup", fn := fun _ => fun
  | [d] => { results := [.lit (.bool false)], args := [d] }
  | _ => none }
def FnFoldedRangesZeroWithoutAnIFlagGroupWrongFalsely : Prop := fnFoldedRangesZeroWithoutAnIFlagGroupRow.holds Tryd.pinned (OpenSpec.ofChange fnFoldedRangesZeroWithoutAnIFlagGroupWrong)

/-- 'zzlaws_internal_regexpcost_b1.FnFoldedRangesGrowsUnderALeadingCaseFold': WHATEVER THE INPUT: true; the input reads as it did. -/
def fnFoldedRangesGrowsUnderALeadingCaseFoldSpec : ChangeSpec := { name := "fnFoldedRangesGrowsUnderALeadingCaseFold", fn := fun _ => fun
  | [d] => { results := [.lit (.bool true)], args := [d] }
  | _ => none }
def fnFoldedRangesGrowsUnderALeadingCaseFoldRow : OpenClaim := { program := "qxb6603283adoor", sum := "34ddd67fbbe8c6f95c972e15eda212510e393b7eafc0db45cd60b23fc93207c1", func := "example.com/binnacle/binnacle/zzlaws_internal_regexpcost_b1.FnFoldedRangesGrowsUnderALeadingCaseFold", spec := "fnFoldedRangesGrowsUnderALeadingCaseFold", inPlace := ["internal/bytealg.IndexByteString", "internal/bytealg.IndexString"], named := ["internal/bytealg.MaxLen", "unicode/utf8.first", "unicode/utf8.acceptRanges"], apart := false, laid := [("unicode/utf8.acceptRanges", laid_unicode_utf8_acceptRanges), ("unicode/utf8.first", laid_unicode_utf8_first)] }
def FnFoldedRangesGrowsUnderALeadingCaseFoldSaid : Prop := fnFoldedRangesGrowsUnderALeadingCaseFoldRow.holds Tryd.pinned (OpenSpec.ofChange fnFoldedRangesGrowsUnderALeadingCaseFoldSpec)

/-- ITS FALSE NEIGHBOUR: 'it returns false'. Refute it at one input. -/
def fnFoldedRangesGrowsUnderALeadingCaseFoldWrong : ChangeSpec := { name := "fnFoldedRangesGrowsUnderALeadingCaseFold", fn := fun _ => fun
  | [d] => { results := [.lit (.bool false)], args := [d] }
  | _ => none }
def FnFoldedRangesGrowsUnderALeadingCaseFoldWrongFalsely : Prop := fnFoldedRangesGrowsUnderALeadingCaseFoldRow.holds Tryd.pinned (OpenSpec.ofChange fnFoldedRangesGrowsUnderALeadingCaseFoldWrong)

end Rows
end Go.Proofs.Qxb6603283aDoor
