/-
  DERIVED. GIVEN WITH THE SEED: THE CARDS: each row of YtkfaalfbnhkkaaaDoorRows.lean that lists a variable, with what it lists TIED to the program's text (the seventh form; the later family's looks); each row that meets fmt, with fmt's text TOLD by the authors' own Lean function (tested against real Go, not proved from fmt's source: count such statements apart). THE CARD IS WHAT COUNTS. Prove the row's statement (the work); the ties are given (YtkfaalfbnhkkaaaDoorTie.lean); close each card by the builder's one call (the guide's Derived/Test/ToyasCard.lean, 'card_holds'). Laid BY PROGRAM, IN A SANDBOX (cutbox-door.mjs). By AI agents, Wed Nov 11 2026. No macro, syntax, notation, axiom, sorry.
-/
import Derived.Test.YtkfaalfbnhkkaaaDoorRows
import GoSem.ClaimSeven
namespace Go.Proofs.YtkfaalfbnhkkaaaDoor
namespace Rows

/-- THE TIED CARD OF 'laws.FnCountValues'. -/
def fnCountValuesCard : Claim7 := { stood := { row := fnCountValuesRow, standIns := [], harness := (true, "660b106f0c0e69c6336cd90a954824ae728c2847720f602f944d183ad59b68d6"), looks := true }, kinds := [], alts := [], laidByText := true, laidKinds := [.sentinel], laidTests := true, laidLooks := .later }
def FnCountValuesCardSaid : Prop := Claim7.holds Tryd.pinned (.plain (OpenSpec.ofChange fnCountValuesSpec)) fnCountValuesCard

/-- THE SECOND FORM's CARD OF 'laws.FnCountValues'. -/
def fnCountValuesUptoCard : Claim7 := { stood := { row := fnCountValuesUptoRow, standIns := [], harness := (true, "660b106f0c0e69c6336cd90a954824ae728c2847720f602f944d183ad59b68d6"), looks := true }, kinds := [], alts := [], laidByText := true, laidKinds := [.sentinel], laidTests := true, laidLooks := .later }
def FnCountValuesUptoCardSaid : Prop := Claim7.holds Tryd.pinned (.plain (OpenSpec.upto fnCountValuesSpec)) fnCountValuesUptoCard
end Rows
end Go.Proofs.YtkfaalfbnhkkaaaDoor
