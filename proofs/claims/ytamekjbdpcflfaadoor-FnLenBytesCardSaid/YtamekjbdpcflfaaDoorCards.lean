/-
  DERIVED. GIVEN WITH THE SEED: THE CARDS: each row of YtamekjbdpcflfaaDoorRows.lean that lists a variable, with what it lists TIED to the program's text (the seventh form; the later family's looks); each row that meets fmt, with fmt's text TOLD by the authors' own Lean function (tested against real Go, not proved from fmt's source: count such statements apart). THE CARD IS WHAT COUNTS. Prove the row's statement (the work); the ties are given (YtamekjbdpcflfaaDoorTie.lean); close each card by the builder's one call (the guide's Derived/Test/ToyasCard.lean, 'card_holds'). Laid BY PROGRAM, IN A SANDBOX (cutbox-door.mjs). By AI agents, Wed Nov 11 2026. No macro, syntax, notation, axiom, sorry.
-/
import Derived.Test.YtamekjbdpcflfaaDoorRows
import GoSem.ClaimSeven
namespace Go.Proofs.YtamekjbdpcflfaaDoor
namespace Rows

/-- THE TIED CARD OF 'laws.FnLimOffRefuses'. -/
def fnLimOffRefusesCard : Claim7 := { stood := { row := fnLimOffRefusesRow, standIns := [], harness := (true, "bd373abf43eea33082b05220835817fca7463f3710facd497be54570304252fc"), looks := true }, kinds := [], alts := [], laidByText := true, laidKinds := [.sentinel], laidTests := true, laidLooks := .later }
def FnLimOffRefusesCardSaid : Prop := Claim7.holds Tryd.pinned (.plain (OpenSpec.ofChange fnLimOffRefusesSpec)) fnLimOffRefusesCard

/-- THE TIED CARD OF 'laws.FnHasPrefixFront'. -/
def fnHasPrefixFrontCard : Claim7 := { stood := { row := fnHasPrefixFrontRow, standIns := [], harness := (true, "bd373abf43eea33082b05220835817fca7463f3710facd497be54570304252fc"), looks := true }, kinds := [], alts := [], laidByText := true, laidKinds := [.sentinel], laidTests := true, laidLooks := .later }
def FnHasPrefixFrontCardSaid : Prop := Claim7.holds Tryd.pinned (.plain (OpenSpec.ofChange fnHasPrefixFrontSpec)) fnHasPrefixFrontCard

/-- THE TIED CARD OF 'laws.FnLenBytes'. -/
def fnLenBytesCard : Claim7 := { stood := { row := fnLenBytesRow, standIns := [], harness := (true, "bd373abf43eea33082b05220835817fca7463f3710facd497be54570304252fc"), looks := true }, kinds := [], alts := [], laidByText := true, laidKinds := [.sentinel], laidTests := true, laidLooks := .later }
def FnLenBytesCardSaid : Prop := Claim7.holds Tryd.pinned (.plain (OpenSpec.ofChange fnLenBytesSpec)) fnLenBytesCard

/-- THE TIED CARD OF 'laws.FnCountValues'. -/
def fnCountValuesCard : Claim7 := { stood := { row := fnCountValuesRow, standIns := [], harness := (true, "bd373abf43eea33082b05220835817fca7463f3710facd497be54570304252fc"), looks := true }, kinds := [], alts := [], laidByText := true, laidKinds := [.sentinel], laidTests := true, laidLooks := .later }
def FnCountValuesCardSaid : Prop := Claim7.holds Tryd.pinned (.plain (OpenSpec.ofChange fnCountValuesSpec)) fnCountValuesCard

/-- THE SECOND FORM's CARD OF 'laws.FnLimOffRefuses'. -/
def fnLimOffRefusesUptoCard : Claim7 := { stood := { row := fnLimOffRefusesUptoRow, standIns := [], harness := (true, "bd373abf43eea33082b05220835817fca7463f3710facd497be54570304252fc"), looks := true }, kinds := [], alts := [], laidByText := true, laidKinds := [.sentinel], laidTests := true, laidLooks := .later }
def FnLimOffRefusesUptoCardSaid : Prop := Claim7.holds Tryd.pinned (.plain (OpenSpec.upto fnLimOffRefusesSpec)) fnLimOffRefusesUptoCard

/-- THE SECOND FORM's CARD OF 'laws.FnHasPrefixFront'. -/
def fnHasPrefixFrontUptoCard : Claim7 := { stood := { row := fnHasPrefixFrontUptoRow, standIns := [], harness := (true, "bd373abf43eea33082b05220835817fca7463f3710facd497be54570304252fc"), looks := true }, kinds := [], alts := [], laidByText := true, laidKinds := [.sentinel], laidTests := true, laidLooks := .later }
def FnHasPrefixFrontUptoCardSaid : Prop := Claim7.holds Tryd.pinned (.plain (OpenSpec.upto fnHasPrefixFrontSpec)) fnHasPrefixFrontUptoCard

/-- THE SECOND FORM's CARD OF 'laws.FnLenBytes'. -/
def fnLenBytesUptoCard : Claim7 := { stood := { row := fnLenBytesUptoRow, standIns := [], harness := (true, "bd373abf43eea33082b05220835817fca7463f3710facd497be54570304252fc"), looks := true }, kinds := [], alts := [], laidByText := true, laidKinds := [.sentinel], laidTests := true, laidLooks := .later }
def FnLenBytesUptoCardSaid : Prop := Claim7.holds Tryd.pinned (.plain (OpenSpec.upto fnLenBytesSpec)) fnLenBytesUptoCard

/-- THE SECOND FORM's CARD OF 'laws.FnCountValues'. -/
def fnCountValuesUptoCard : Claim7 := { stood := { row := fnCountValuesUptoRow, standIns := [], harness := (true, "bd373abf43eea33082b05220835817fca7463f3710facd497be54570304252fc"), looks := true }, kinds := [], alts := [], laidByText := true, laidKinds := [.sentinel], laidTests := true, laidLooks := .later }
def FnCountValuesUptoCardSaid : Prop := Claim7.holds Tryd.pinned (.plain (OpenSpec.upto fnCountValuesSpec)) fnCountValuesUptoCard
end Rows
end Go.Proofs.YtamekjbdpcflfaaDoor
