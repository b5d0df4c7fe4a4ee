/-
  DERIVED. GIVEN WITH THE SEED: THE CARDS: each row of YtiijcmdfbgoafaaDoorRows.lean that lists a variable, with what it lists TIED to the program's text (the seventh form; the later family's looks); each row that meets fmt, with fmt's text TOLD by the authors' own Lean function (tested against real Go, not proved from fmt's source: count such statements apart). THE CARD IS WHAT COUNTS. Prove the row's statement (the work); the ties are given (YtiijcmdfbgoafaaDoorTie.lean); close each card by the builder's one call (the guide's Derived/Test/ToyasCard.lean, 'card_holds'). Laid BY PROGRAM, IN A SANDBOX (cutbox-door.mjs). By AI agents, Wed Nov 11 2026. No macro, syntax, notation, axiom, sorry.
-/
import Derived.Test.YtiijcmdfbgoafaaDoorRows
import GoSem.ClaimSeven
namespace Go.Proofs.YtiijcmdfbgoafaaDoor
namespace Rows

/-- THE TIED CARD OF 'laws.FnTypeCheckFits'. -/
def fnTypeCheckFitsCard : Claim7 := { stood := { row := fnTypeCheckFitsRow, standIns := [], harness := (true, "01f436b7c39459f92a68181a4a533cd9633ddbda9693f96a1b2f9174590eb579"), looks := true }, kinds := [], alts := [], laidByText := true, laidKinds := [.sentinel], laidTests := true, laidLooks := .later }
def FnTypeCheckFitsCardSaid : Prop := Claim7.holds Tryd.pinned (.plain (OpenSpec.ofChange fnTypeCheckFitsSpec)) fnTypeCheckFitsCard

/-- THE TIED CARD OF 'laws.FnConvertFloats'. -/
def fnConvertFloatsCard : Claim7 := { stood := { row := fnConvertFloatsRow, standIns := [], harness := (true, "01f436b7c39459f92a68181a4a533cd9633ddbda9693f96a1b2f9174590eb579"), looks := true }, kinds := [], alts := [], laidByText := true, laidKinds := [.sentinel], laidTests := true, laidLooks := .later }
def FnConvertFloatsCardSaid : Prop := Claim7.holds Tryd.pinned (.plain (OpenSpec.ofChange fnConvertFloatsSpec)) fnConvertFloatsCard

/-- THE TIED CARD OF 'laws.FnConvertKinds'. -/
def fnConvertKindsCard : Claim7 := { stood := { row := fnConvertKindsRow, standIns := [], harness := (true, "01f436b7c39459f92a68181a4a533cd9633ddbda9693f96a1b2f9174590eb579"), looks := true }, kinds := [], alts := [], laidByText := true, laidKinds := [.sentinel], laidTests := true, laidLooks := .later }
def FnConvertKindsCardSaid : Prop := Claim7.holds Tryd.pinned (.plain (OpenSpec.ofChange fnConvertKindsSpec)) fnConvertKindsCard

/-- THE TIED CARD OF 'laws.FnConvertNull'. -/
def fnConvertNullCard : Claim7 := { stood := { row := fnConvertNullRow, standIns := [], harness := (true, "01f436b7c39459f92a68181a4a533cd9633ddbda9693f96a1b2f9174590eb579"), looks := true }, kinds := [], alts := [], laidByText := true, laidKinds := [.sentinel], laidTests := true, laidLooks := .later }
def FnConvertNullCardSaid : Prop := Claim7.holds Tryd.pinned (.plain (OpenSpec.ofChange fnConvertNullSpec)) fnConvertNullCard

/-- THE TIED CARD OF 'laws.FnMaxGreatest'. -/
def fnMaxGreatestCard : Claim7 := { stood := { row := fnMaxGreatestRow, standIns := [], harness := (true, "01f436b7c39459f92a68181a4a533cd9633ddbda9693f96a1b2f9174590eb579"), looks := true }, kinds := [], alts := [], laidByText := true, laidKinds := [.sentinel], laidTests := true, laidLooks := .later }
def FnMaxGreatestCardSaid : Prop := Claim7.holds Tryd.pinned (.plain (OpenSpec.ofChange fnMaxGreatestSpec)) fnMaxGreatestCard

/-- THE SECOND FORM's CARD OF 'laws.FnTypeCheckFits'. -/
def fnTypeCheckFitsUptoCard : Claim7 := { stood := { row := fnTypeCheckFitsUptoRow, standIns := [], harness := (true, "01f436b7c39459f92a68181a4a533cd9633ddbda9693f96a1b2f9174590eb579"), looks := true }, kinds := [], alts := [], laidByText := true, laidKinds := [.sentinel], laidTests := true, laidLooks := .later }
def FnTypeCheckFitsUptoCardSaid : Prop := Claim7.holds Tryd.pinned (.plain (OpenSpec.upto fnTypeCheckFitsSpec)) fnTypeCheckFitsUptoCard

/-- THE SECOND FORM's CARD OF 'laws.FnConvertFloats'. -/
def fnConvertFloatsUptoCard : Claim7 := { stood := { row := fnConvertFloatsUptoRow, standIns := [], harness := (true, "01f436b7c39459f92a68181a4a533cd9633ddbda9693f96a1b2f9174590eb579"), looks := true }, kinds := [], alts := [], laidByText := true, laidKinds := [.sentinel], laidTests := true, laidLooks := .later }
def FnConvertFloatsUptoCardSaid : Prop := Claim7.holds Tryd.pinned (.plain (OpenSpec.upto fnConvertFloatsSpec)) fnConvertFloatsUptoCard

/-- THE SECOND FORM's CARD OF 'laws.FnConvertKinds'. -/
def fnConvertKindsUptoCard : Claim7 := { stood := { row := fnConvertKindsUptoRow, standIns := [], harness := (true, "01f436b7c39459f92a68181a4a533cd9633ddbda9693f96a1b2f9174590eb579"), looks := true }, kinds := [], alts := [], laidByText := true, laidKinds := [.sentinel], laidTests := true, laidLooks := .later }
def FnConvertKindsUptoCardSaid : Prop := Claim7.holds Tryd.pinned (.plain (OpenSpec.upto fnConvertKindsSpec)) fnConvertKindsUptoCard

/-- THE SECOND FORM's CARD OF 'laws.FnConvertNull'. -/
def fnConvertNullUptoCard : Claim7 := { stood := { row := fnConvertNullUptoRow, standIns := [], harness := (true, "01f436b7c39459f92a68181a4a533cd9633ddbda9693f96a1b2f9174590eb579"), looks := true }, kinds := [], alts := [], laidByText := true, laidKinds := [.sentinel], laidTests := true, laidLooks := .later }
def FnConvertNullUptoCardSaid : Prop := Claim7.holds Tryd.pinned (.plain (OpenSpec.upto fnConvertNullSpec)) fnConvertNullUptoCard

/-- THE SECOND FORM's CARD OF 'laws.FnMaxGreatest'. -/
def fnMaxGreatestUptoCard : Claim7 := { stood := { row := fnMaxGreatestUptoRow, standIns := [], harness := (true, "01f436b7c39459f92a68181a4a533cd9633ddbda9693f96a1b2f9174590eb579"), looks := true }, kinds := [], alts := [], laidByText := true, laidKinds := [.sentinel], laidTests := true, laidLooks := .later }
def FnMaxGreatestUptoCardSaid : Prop := Claim7.holds Tryd.pinned (.plain (OpenSpec.upto fnMaxGreatestSpec)) fnMaxGreatestUptoCard
end Rows
end Go.Proofs.YtiijcmdfbgoafaaDoor
