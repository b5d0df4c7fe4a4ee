/-
  DERIVED. GIVEN WITH THE SEED: THE CARDS: each row of YtffgkocokkhahaaDoorRows.lean that lists a variable, with what it lists TIED to the program's text (the seventh form; the later family's looks); each row that meets fmt, with fmt's text TOLD by the authors' own Lean function (tested against real Go, not proved from fmt's source: count such statements apart). THE CARD IS WHAT COUNTS. Prove the row's statement (the work); the ties are given (YtffgkocokkhahaaDoorTie.lean); close each card by the builder's one call (the guide's Derived/Test/ToyasCard.lean, 'card_holds'). Laid BY PROGRAM, IN A SANDBOX (cutbox-door.mjs). By AI agents, Wed Nov 11 2026. No macro, syntax, notation, axiom, sorry.
-/
import Derived.Test.YtffgkocokkhahaaDoorRows
import GoSem.ClaimSeven
namespace Go.Proofs.YtffgkocokkhahaaDoor
namespace Rows

/-- THE TIED CARD OF 'laws.FnTreePlays'. -/
def fnTreePlaysCard : Claim7 := { stood := { row := fnTreePlaysRow, standIns := [], harness := (true, "422616c9434b9e9e69826aec262b91aaa66d59989cfa6794c39d144d5cfff2c8"), looks := true }, kinds := [], alts := [], laidByText := true, laidKinds := [.sentinel], laidTests := true, laidLooks := .later }
def FnTreePlaysCardSaid : Prop := Claim7.holds Tryd.pinned (.plain (OpenSpec.ofChange fnTreePlaysSpec)) fnTreePlaysCard

/-- THE TIED CARD OF 'laws.FnIndexUnique'. -/
def fnIndexUniqueCard : Claim7 := { stood := { row := fnIndexUniqueRow, standIns := [], harness := (true, "422616c9434b9e9e69826aec262b91aaa66d59989cfa6794c39d144d5cfff2c8"), looks := true }, kinds := [], alts := [], laidByText := true, laidKinds := [.sentinel, .sentinel, .sentinel], laidTests := true, laidLooks := .later }
def FnIndexUniqueCardSaid : Prop := Claim7.holds Tryd.pinned (.plain (OpenSpec.ofChange fnIndexUniqueSpec)) fnIndexUniqueCard

/-- THE SECOND FORM's CARD OF 'laws.FnTreePlays'. -/
def fnTreePlaysUptoCard : Claim7 := { stood := { row := fnTreePlaysUptoRow, standIns := [], harness := (true, "422616c9434b9e9e69826aec262b91aaa66d59989cfa6794c39d144d5cfff2c8"), looks := true }, kinds := [], alts := [], laidByText := true, laidKinds := [.sentinel], laidTests := true, laidLooks := .later }
def FnTreePlaysUptoCardSaid : Prop := Claim7.holds Tryd.pinned (.plain (OpenSpec.upto fnTreePlaysSpec)) fnTreePlaysUptoCard

/-- THE SECOND FORM's CARD OF 'laws.FnIndexUnique'. -/
def fnIndexUniqueUptoCard : Claim7 := { stood := { row := fnIndexUniqueUptoRow, standIns := [], harness := (true, "422616c9434b9e9e69826aec262b91aaa66d59989cfa6794c39d144d5cfff2c8"), looks := true }, kinds := [], alts := [], laidByText := true, laidKinds := [.sentinel, .sentinel, .sentinel], laidTests := true, laidLooks := .later }
def FnIndexUniqueUptoCardSaid : Prop := Claim7.holds Tryd.pinned (.plain (OpenSpec.upto fnIndexUniqueSpec)) fnIndexUniqueUptoCard
end Rows
end Go.Proofs.YtffgkocokkhahaaDoor
