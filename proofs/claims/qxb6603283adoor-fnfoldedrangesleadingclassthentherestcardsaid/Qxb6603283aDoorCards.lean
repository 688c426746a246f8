/-
  DERIVED. GIVEN WITH THE SEED: THE CARDS: each row of Qxb6603283aDoorRows.lean that lists a variable, with what it lists TIED to the program's text (the seventh form; the later family's looks); each row that meets fmt, with fmt's text TOLD by the authors' own Lean function (tested against real Go, not proved from fmt's source: count such statements apart). THE CARD IS WHAT COUNTS. Prove the row's statement (the work); the ties are given (Qxb6603283aDoorTie.lean); close each card by the builder's one call (the guide's Derived/Test/ToyasCard.lean, 'card_holds'). Laid BY PROGRAM, IN A SANDBOX (cutbox-door.mjs). By AI agents, Wed Nov 11 2026. No macro, syntax, notation, axiom, sorry.
-/
import Derived.Test.Qxb6603283aDoorRows
import GoSem.ClaimSeven
namespace Go.Proofs.Qxb6603283aDoor
namespace Rows

/-- THE TIED CARD OF 'zzlaws_internal_regexpcost_b1.FnClassRangesShiftInvariant'. -/
def fnClassRangesShiftInvariantCard : Claim7 := { stood := { row := fnClassRangesShiftInvariantRow, standIns := [], harness := (true, "690b7edf2dc7ecefbbc79bba294f4f318111a4b9000fdfffd16f86a20cd27035"), looks := false }, kinds := [], alts := [], laidByText := true, laidKinds := [.data, .pinned], laidTests := true, laidLooks := .later }
def FnClassRangesShiftInvariantCardSaid : Prop := Claim7.holds Tryd.pinned (.plain (OpenSpec.ofChange fnClassRangesShiftInvariantSpec)) fnClassRangesShiftInvariantCard

/-- THE TIED CARD OF 'zzlaws_internal_regexpcost_b1.FnClassRangesEndsAtItsBracketAndIgnoresTheRest'. -/
def fnClassRangesEndsAtItsBracketAndIgnoresTheRestCard : Claim7 := { stood := { row := fnClassRangesEndsAtItsBracketAndIgnoresTheRestRow, standIns := [], harness := (true, "690b7edf2dc7ecefbbc79bba294f4f318111a4b9000fdfffd16f86a20cd27035"), looks := false }, kinds := [], alts := [], laidByText := true, laidKinds := [.data, .pinned], laidTests := true, laidLooks := .later }
def FnClassRangesEndsAtItsBracketAndIgnoresTheRestCardSaid : Prop := Claim7.holds Tryd.pinned (.plain (OpenSpec.ofChange fnClassRangesEndsAtItsBracketAndIgnoresTheRestSpec)) fnClassRangesEndsAtItsBracketAndIgnoresTheRestCard

/-- THE TIED CARD OF 'zzlaws_internal_regexpcost_b1.FnFoldedRangesLeadingClassThenTheRest'. -/
def fnFoldedRangesLeadingClassThenTheRestCard : Claim7 := { stood := { row := fnFoldedRangesLeadingClassThenTheRestRow, standIns := [], harness := (true, "690b7edf2dc7ecefbbc79bba294f4f318111a4b9000fdfffd16f86a20cd27035"), looks := false }, kinds := [], alts := [], laidByText := true, laidKinds := [.data, .pinned], laidTests := true, laidLooks := .later }
def FnFoldedRangesLeadingClassThenTheRestCardSaid : Prop := Claim7.holds Tryd.pinned (.plain (OpenSpec.ofChange fnFoldedRangesLeadingClassThenTheRestSpec)) fnFoldedRangesLeadingClassThenTheRestCard

/-- THE TIED CARD OF 'zzlaws_internal_regexpcost_b1.FnFoldedRangesQuoteIsOpaque'. -/
def fnFoldedRangesQuoteIsOpaqueCard : Claim7 := { stood := { row := fnFoldedRangesQuoteIsOpaqueRow, standIns := [], harness := (true, "690b7edf2dc7ecefbbc79bba294f4f318111a4b9000fdfffd16f86a20cd27035"), looks := false }, kinds := [], alts := [], laidByText := true, laidKinds := [.data, .pinned], laidTests := true, laidLooks := .later }
def FnFoldedRangesQuoteIsOpaqueCardSaid : Prop := Claim7.holds Tryd.pinned (.plain (OpenSpec.ofChange fnFoldedRangesQuoteIsOpaqueSpec)) fnFoldedRangesQuoteIsOpaqueCard

/-- THE TIED CARD OF 'zzlaws_internal_regexpcost_b1.FnFoldedRangesZeroWithoutAnIFlagGroup'. -/
def fnFoldedRangesZeroWithoutAnIFlagGroupCard : Claim7 := { stood := { row := fnFoldedRangesZeroWithoutAnIFlagGroupRow, standIns := [], harness := (true, "690b7edf2dc7ecefbbc79bba294f4f318111a4b9000fdfffd16f86a20cd27035"), looks := false }, kinds := [], alts := [], laidByText := true, laidKinds := [.data, .pinned], laidTests := true, laidLooks := .later }
def FnFoldedRangesZeroWithoutAnIFlagGroupCardSaid : Prop := Claim7.holds Tryd.pinned (.plain (OpenSpec.ofChange fnFoldedRangesZeroWithoutAnIFlagGroupSpec)) fnFoldedRangesZeroWithoutAnIFlagGroupCard

/-- THE TIED CARD OF 'zzlaws_internal_regexpcost_b1.FnFoldedRangesGrowsUnderALeadingCaseFold'. -/
def fnFoldedRangesGrowsUnderALeadingCaseFoldCard : Claim7 := { stood := { row := fnFoldedRangesGrowsUnderALeadingCaseFoldRow, standIns := [], harness := (true, "690b7edf2dc7ecefbbc79bba294f4f318111a4b9000fdfffd16f86a20cd27035"), looks := false }, kinds := [], alts := [], laidByText := true, laidKinds := [.data, .pinned], laidTests := true, laidLooks := .later }
def FnFoldedRangesGrowsUnderALeadingCaseFoldCardSaid : Prop := Claim7.holds Tryd.pinned (.plain (OpenSpec.ofChange fnFoldedRangesGrowsUnderALeadingCaseFoldSpec)) fnFoldedRangesGrowsUnderALeadingCaseFoldCard
end Rows
end Go.Proofs.Qxb6603283aDoor
