/-
  DERIVED. GIVEN WITH THE SEED: THE CARDS: each row of Qxb6605161aDoorRows.lean that lists a variable, with what it lists TIED to the program's text (the seventh form; the later family's looks); each row that meets fmt, with fmt's text TOLD by the authors' own Lean function (tested against real Go, not proved from fmt's source: count such statements apart). THE CARD IS WHAT COUNTS. Prove the row's statement (the work); the ties are given (Qxb6605161aDoorTie.lean); close each card by the builder's one call (the guide's Derived/Test/ToyasCard.lean, 'card_holds'). Laid BY PROGRAM, IN A SANDBOX (cutbox-door.mjs). By AI agents, Wed Nov 11 2026. No macro, syntax, notation, axiom, sorry.
-/
import Derived.Test.Qxb6605161aDoorRows
import GoSem.ClaimSeven
namespace Go.Proofs.Qxb6605161aDoor
namespace Rows

/-- THE TIED CARD OF 'zzlaws_sqlstore_b1.FnPlaceholdersLengthAndGrowth'. -/
def fnPlaceholdersLengthAndGrowthCard : Claim7 := { stood := { row := fnPlaceholdersLengthAndGrowthRow, standIns := [], harness := (true, "a33bdd52dcdc41ea9483af0ff9483fa8b5cd3042271a3fc0072bba13872be848"), looks := false }, kinds := [], alts := [], laidByText := true, laidKinds := [.data, .data, .data], laidTests := true, laidLooks := .later }
def FnPlaceholdersLengthAndGrowthCardSaid : Prop := Claim7.holds Tryd.pinned (.plain (OpenSpec.ofChange fnPlaceholdersLengthAndGrowthSpec)) fnPlaceholdersLengthAndGrowthCard
end Rows
end Go.Proofs.Qxb6605161aDoor
