/-
  DERIVED. GIVEN WITH THE SEED: THE CARDS: each row of Qxb6602824aDoorRows.lean that lists a variable, with what it lists TIED to the program's text (the seventh form; the later family's looks); each row that meets fmt, with fmt's text TOLD by the authors' own Lean function (tested against real Go, not proved from fmt's source: count such statements apart). THE CARD IS WHAT COUNTS. Prove the row's statement (the work); the ties are given (Qxb6602824aDoorTie.lean); close each card by the builder's one call (the guide's Derived/Test/ToyasCard.lean, 'card_holds'). Laid BY PROGRAM, IN A SANDBOX (cutbox-door.mjs). By AI agents, Wed Nov 11 2026. No macro, syntax, notation, axiom, sorry.
-/
import Derived.Test.Qxb6602824aDoorRows
import GoSem.ClaimSeven
namespace Go.Proofs.Qxb6602824aDoor
namespace Rows

/-- THE TIED CARD OF 'zzlaws_internal_eventjson_b1.FnFindFirstExactThenFirstASCIIFold'. -/
def fnFindFirstExactThenFirstASCIIFoldCard : Claim7 := { stood := { row := fnFindFirstExactThenFirstASCIIFoldRow, standIns := [], harness := (true, "306212ea85a87fbd055c4b9b75aa2bd196fdc891dd3cca6cb38982495424149b"), looks := false }, kinds := [], alts := [], laidByText := true, laidKinds := [.data, .data, .data, .pinned, .pinned], laidTests := true, laidLooks := .later }
def FnFindFirstExactThenFirstASCIIFoldCardSaid : Prop := Claim7.holds Tryd.pinned (.plain (OpenSpec.ofChange fnFindFirstExactThenFirstASCIIFoldSpec)) fnFindFirstExactThenFirstASCIIFoldCard

/-- THE TIED CARD OF 'zzlaws_internal_eventjson_b1.FnFindFoldExtendsExact'. -/
def fnFindFoldExtendsExactCard : Claim7 := { stood := { row := fnFindFoldExtendsExactRow, standIns := [], harness := (true, "306212ea85a87fbd055c4b9b75aa2bd196fdc891dd3cca6cb38982495424149b"), looks := false }, kinds := [], alts := [], laidByText := true, laidKinds := [.data, .data, .data, .pinned, .pinned], laidTests := true, laidLooks := .later }
def FnFindFoldExtendsExactCardSaid : Prop := Claim7.holds Tryd.pinned (.plain (OpenSpec.ofChange fnFindFoldExtendsExactSpec)) fnFindFoldExtendsExactCard
end Rows
end Go.Proofs.Qxb6602824aDoor
