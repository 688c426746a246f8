/-
  DERIVED. GIVEN WITH THE SEED: THE CARDS: each row of Qxb6603100aDoorRows.lean that lists a variable, with what it lists TIED to the program's text (the seventh form; the later family's looks); each row that meets fmt, with fmt's text TOLD by the authors' own Lean function (tested against real Go, not proved from fmt's source: count such statements apart). THE CARD IS WHAT COUNTS. Prove the row's statement (the work); the ties are given (Qxb6603100aDoorTie.lean); close each card by the builder's one call (the guide's Derived/Test/ToyasCard.lean, 'card_holds'). Laid BY PROGRAM, IN A SANDBOX (cutbox-door.mjs). By AI agents, Wed Nov 11 2026. No macro, syntax, notation, axiom, sorry.
-/
import Derived.Test.Qxb6603100aDoorRows
import GoSem.ClaimSeven
namespace Go.Proofs.Qxb6603100aDoor
namespace Rows

/-- THE TIED CARD OF 'zzlaws_internal_syntax_b1.FnAloneModel'. -/
def fnAloneModelCard : Claim7 := { stood := { row := fnAloneModelRow, standIns := [], harness := (true, "de9b220bf0eab53243e19bd99a4e6b053a68f1df0849cf347c4c0f3e5d8417b7"), looks := false }, kinds := [], alts := [], laidByText := true, laidKinds := [.data, .pinned], laidTests := true, laidLooks := .later }
def FnAloneModelCardSaid : Prop := Claim7.holds Tryd.pinned (.plain (OpenSpec.ofChange fnAloneModelSpec)) fnAloneModelCard

/-- THE TIED CARD OF 'zzlaws_internal_syntax_b1.FnAloneLines'. -/
def fnAloneLinesCard : Claim7 := { stood := { row := fnAloneLinesRow, standIns := [], harness := (true, "de9b220bf0eab53243e19bd99a4e6b053a68f1df0849cf347c4c0f3e5d8417b7"), looks := false }, kinds := [], alts := [], laidByText := true, laidKinds := [.data, .pinned], laidTests := true, laidLooks := .later }
def FnAloneLinesCardSaid : Prop := Claim7.holds Tryd.pinned (.plain (OpenSpec.ofChange fnAloneLinesSpec)) fnAloneLinesCard
end Rows
end Go.Proofs.Qxb6603100aDoor
