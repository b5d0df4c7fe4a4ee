/-
  DERIVED. GIVEN WITH THE SEED: THE CARDS: each row of YtffgkocokkhahaaGreatDoorRows.lean that lists a variable, with what it lists TIED to the program's text (the seventh form; the later family's looks); each row that meets fmt, with fmt's text TOLD by the authors' own Lean function (tested against real Go, not proved from fmt's source: count such statements apart). THE CARD IS WHAT COUNTS. Prove the row's statement (the work); the ties are given (YtffgkocokkhahaaGreatDoorTie.lean); close each card by the builder's one call (the guide's Derived/Test/ToyasCard.lean, 'card_holds'). Laid BY PROGRAM, IN A SANDBOX (cutbox-door.mjs). By AI agents, Wed Nov 11 2026. No macro, syntax, notation, axiom, sorry.
-/
import Derived.Test.YtffgkocokkhahaaGreatDoorRows
import GoSem.ClaimSeven
namespace Go.Proofs.YtffgkocokkhahaaGreatDoor
namespace Rows

/-- THE TIED CARD OF 'laws.FnMemPlays'. -/
def fnMemPlaysCard : Claim7 := { stood := { row := fnMemPlaysRow, standIns := [], harness := (true, "2074acb4ec410f73fbcbc2d046e178c9e1ef0e295db91b900dc6e01288da4441"), looks := true }, kinds := [], alts := [], laidByText := true, laidKinds := [.sentinel, .sentinel, .sentinel, .sentinel], laidTests := true, laidLooks := .later }
def FnMemPlaysCardSaid : Prop := Claim7.holds Tryz.pinned (.plain (OpenSpec.ofChange fnMemPlaysSpec)) fnMemPlaysCard

/-- THE TIED CARD OF 'laws.FnIndexOrder'. -/
def fnIndexOrderCard : Claim7 := { stood := { row := fnIndexOrderRow, standIns := [], harness := (true, "2074acb4ec410f73fbcbc2d046e178c9e1ef0e295db91b900dc6e01288da4441"), looks := true }, kinds := [], alts := [], laidByText := true, laidKinds := [.sentinel, .sentinel, .sentinel], laidTests := true, laidLooks := .later }
def FnIndexOrderCardSaid : Prop := Claim7.holds Tryz.pinned (.plain (OpenSpec.ofChange fnIndexOrderSpec)) fnIndexOrderCard

/-- THE SECOND FORM's CARD OF 'laws.FnMemPlays'. -/
def fnMemPlaysUptoCard : Claim7 := { stood := { row := fnMemPlaysUptoRow, standIns := [], harness := (true, "2074acb4ec410f73fbcbc2d046e178c9e1ef0e295db91b900dc6e01288da4441"), looks := true }, kinds := [], alts := [], laidByText := true, laidKinds := [.sentinel, .sentinel, .sentinel, .sentinel], laidTests := true, laidLooks := .later }
def FnMemPlaysUptoCardSaid : Prop := Claim7.holds Tryz.pinned (.plain (OpenSpec.upto fnMemPlaysSpec)) fnMemPlaysUptoCard

/-- THE SECOND FORM's CARD OF 'laws.FnIndexOrder'. -/
def fnIndexOrderUptoCard : Claim7 := { stood := { row := fnIndexOrderUptoRow, standIns := [], harness := (true, "2074acb4ec410f73fbcbc2d046e178c9e1ef0e295db91b900dc6e01288da4441"), looks := true }, kinds := [], alts := [], laidByText := true, laidKinds := [.sentinel, .sentinel, .sentinel], laidTests := true, laidLooks := .later }
def FnIndexOrderUptoCardSaid : Prop := Claim7.holds Tryz.pinned (.plain (OpenSpec.upto fnIndexOrderSpec)) fnIndexOrderUptoCard
end Rows
end Go.Proofs.YtffgkocokkhahaaGreatDoor
