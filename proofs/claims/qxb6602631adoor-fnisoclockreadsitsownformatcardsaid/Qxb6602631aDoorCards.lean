/-
  DERIVED. GIVEN WITH THE SEED: THE CARDS: each row of Qxb6602631aDoorRows.lean that lists a variable, with what it lists TIED to the program's text (the seventh form; the later family's looks); each row that meets fmt, with fmt's text TOLD by the authors' own Lean function (tested against real Go, not proved from fmt's source: count such statements apart). THE CARD IS WHAT COUNTS. Prove the row's statement (the work); the ties are given (Qxb6602631aDoorTie.lean); close each card by the builder's one call (the guide's Derived/Test/ToyasCard.lean, 'card_holds'). Laid BY PROGRAM, IN A SANDBOX (cutbox-door.mjs). By AI agents, Wed Nov 11 2026. No macro, syntax, notation, axiom, sorry.
-/
import Derived.Test.Qxb6602631aDoorRows
import GoSem.ClaimSeven
namespace Go.Proofs.Qxb6602631aDoor
namespace Rows

/-- THE TIED CARD OF 'zzlaws_internal_condition_b1.FnIsoClockPastAddsOnlyEndOfDay'. -/
def fnIsoClockPastAddsOnlyEndOfDayCard : Claim7 := { stood := { row := fnIsoClockPastAddsOnlyEndOfDayRow, standIns := [], harness := (true, "c0306e3060c59861753dcd5c0c513c2be5a745c538a16fbea0fd4052324daa32"), looks := true }, kinds := [], alts := [], laidByText := true, laidKinds := [.data, .data, .data, .data, .sentinel, .sentinel, .pinned], laidTests := true, laidLooks := .later }
def FnIsoClockPastAddsOnlyEndOfDayCardSaid : Prop := Claim7.holds Tryd.pinned (.plain (OpenSpec.ofChange fnIsoClockPastAddsOnlyEndOfDaySpec)) fnIsoClockPastAddsOnlyEndOfDayCard

/-- THE TIED CARD OF 'zzlaws_internal_condition_b1.FnIsoClockReadsItsOwnFormat'. -/
def fnIsoClockReadsItsOwnFormatCard : Claim7 := { stood := { row := fnIsoClockReadsItsOwnFormatRow, standIns := [], harness := (true, "c0306e3060c59861753dcd5c0c513c2be5a745c538a16fbea0fd4052324daa32"), looks := true }, kinds := [], alts := [], laidByText := true, laidKinds := [.data, .data, .data, .data, .sentinel, .sentinel, .pinned], laidTests := true, laidLooks := .later }
def FnIsoClockReadsItsOwnFormatCardSaid : Prop := Claim7.holds Tryd.pinned (.plain (OpenSpec.ofChange fnIsoClockReadsItsOwnFormatSpec)) fnIsoClockReadsItsOwnFormatCard

/-- THE TIED CARD OF 'zzlaws_internal_condition_b1.FnLikeAgreesWithAMatcherWhereItTells'. -/
def fnLikeAgreesWithAMatcherWhereItTellsCard : Claim7 := { stood := { row := fnLikeAgreesWithAMatcherWhereItTellsRow, standIns := [], harness := (true, "c0306e3060c59861753dcd5c0c513c2be5a745c538a16fbea0fd4052324daa32"), looks := true }, kinds := [], alts := [], laidByText := true, laidKinds := [.data, .pinned], laidTests := true, laidLooks := .later }
def FnLikeAgreesWithAMatcherWhereItTellsCardSaid : Prop := Claim7.holds Tryd.pinned (.plain (OpenSpec.ofChange fnLikeAgreesWithAMatcherWhereItTellsSpec)) fnLikeAgreesWithAMatcherWhereItTellsCard

/-- THE TIED CARD OF 'zzlaws_internal_condition_b1.FnLikeTrailingPercentKeepsAMatch'. -/
def fnLikeTrailingPercentKeepsAMatchCard : Claim7 := { stood := { row := fnLikeTrailingPercentKeepsAMatchRow, standIns := [], harness := (true, "c0306e3060c59861753dcd5c0c513c2be5a745c538a16fbea0fd4052324daa32"), looks := true }, kinds := [], alts := [], laidByText := true, laidKinds := [.data, .pinned], laidTests := true, laidLooks := .later }
def FnLikeTrailingPercentKeepsAMatchCardSaid : Prop := Claim7.holds Tryd.pinned (.plain (OpenSpec.ofChange fnLikeTrailingPercentKeepsAMatchSpec)) fnLikeTrailingPercentKeepsAMatchCard
end Rows
end Go.Proofs.Qxb6602631aDoor
