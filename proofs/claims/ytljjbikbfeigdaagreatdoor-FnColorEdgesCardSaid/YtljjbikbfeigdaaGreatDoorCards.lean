/-
  DERIVED. GIVEN WITH THE SEED: THE CARDS: each row of YtljjbikbfeigdaaGreatDoorRows.lean that lists a variable, with what it lists TIED to the program's text (the seventh form; the later family's looks); each row that meets fmt, with fmt's text TOLD by the authors' own Lean function (tested against real Go, not proved from fmt's source: count such statements apart). THE CARD IS WHAT COUNTS. Prove the row's statement (the work); the ties are given (YtljjbikbfeigdaaGreatDoorTie.lean); close each card by the builder's one call (the guide's Derived/Test/ToyasCard.lean, 'card_holds'). Laid BY PROGRAM, IN A SANDBOX (cutbox-door.mjs). By AI agents, Wed Nov 11 2026. No macro, syntax, notation, axiom, sorry.
-/
import Derived.Test.YtljjbikbfeigdaaGreatDoorRows
import GoSem.ClaimSeven
namespace Go.Proofs.YtljjbikbfeigdaaGreatDoor
namespace Rows

/-- THE TIED CARD OF 'laws.FnFlatBlocks'. -/
def fnFlatBlocksCard : Claim7 := { stood := { row := fnFlatBlocksRow, standIns := [], harness := (true, "977f8b3d36f08ad5ecfe52211fd5863dd3e3b83d416ebc4a6795e26478be98c3"), looks := true }, kinds := [], alts := [], laidByText := true, laidKinds := [.handle, .data, .data, .data], laidTests := true, laidLooks := .later }
def FnFlatBlocksCardSaid : Prop := Claim7.holds Tryz.pinned (.plain (OpenSpec.ofChange fnFlatBlocksSpec)) fnFlatBlocksCard

/-- THE TIED CARD OF 'laws.FnGrayCoefficients'. -/
def fnGrayCoefficientsCard : Claim7 := { stood := { row := fnGrayCoefficientsRow, standIns := [], harness := (true, "977f8b3d36f08ad5ecfe52211fd5863dd3e3b83d416ebc4a6795e26478be98c3"), looks := true }, kinds := [], alts := [], laidByText := true, laidKinds := [.data, .data, .handle, .data, .data, .data], laidTests := true, laidLooks := .later }
def FnGrayCoefficientsCardSaid : Prop := Claim7.holds Tryz.pinned (.plain (OpenSpec.ofChange fnGrayCoefficientsSpec)) fnGrayCoefficientsCard

/-- THE TIED CARD OF 'laws.FnGrayEdges'. -/
def fnGrayEdgesCard : Claim7 := { stood := { row := fnGrayEdgesRow, standIns := [], harness := (true, "977f8b3d36f08ad5ecfe52211fd5863dd3e3b83d416ebc4a6795e26478be98c3"), looks := true }, kinds := [], alts := [], laidByText := true, laidKinds := [.data, .data, .handle, .data, .data, .data], laidTests := true, laidLooks := .later }
def FnGrayEdgesCardSaid : Prop := Claim7.holds Tryz.pinned (.plain (OpenSpec.ofChange fnGrayEdgesSpec)) fnGrayEdgesCard

/-- THE TIED CARD OF 'laws.FnGrayStream'. -/
def fnGrayStreamCard : Claim7 := { stood := { row := fnGrayStreamRow, standIns := [], harness := (true, "977f8b3d36f08ad5ecfe52211fd5863dd3e3b83d416ebc4a6795e26478be98c3"), looks := true }, kinds := [], alts := [], laidByText := true, laidKinds := [.handle, .data, .data, .data], laidTests := true, laidLooks := .later }
def FnGrayStreamCardSaid : Prop := Claim7.holds Tryz.pinned (.plain (OpenSpec.ofChange fnGrayStreamSpec)) fnGrayStreamCard

/-- THE TIED CARD OF 'laws.FnColorCoefficients'. -/
def fnColorCoefficientsCard : Claim7 := { stood := { row := fnColorCoefficientsRow, standIns := [], harness := (true, "977f8b3d36f08ad5ecfe52211fd5863dd3e3b83d416ebc4a6795e26478be98c3"), looks := true }, kinds := [], alts := [], laidByText := true, laidKinds := [.data, .data, .handle, .data, .data, .data], laidTests := true, laidLooks := .later }
def FnColorCoefficientsCardSaid : Prop := Claim7.holds Tryz.pinned (.plain (OpenSpec.ofChange fnColorCoefficientsSpec)) fnColorCoefficientsCard

/-- THE TIED CARD OF 'laws.FnColorEdges'. -/
def fnColorEdgesCard : Claim7 := { stood := { row := fnColorEdgesRow, standIns := [], harness := (true, "977f8b3d36f08ad5ecfe52211fd5863dd3e3b83d416ebc4a6795e26478be98c3"), looks := true }, kinds := [], alts := [], laidByText := true, laidKinds := [.data, .data, .handle, .data, .data, .data], laidTests := true, laidLooks := .later }
def FnColorEdgesCardSaid : Prop := Claim7.holds Tryz.pinned (.plain (OpenSpec.ofChange fnColorEdgesSpec)) fnColorEdgesCard

/-- THE TIED CARD OF 'laws.FnColorStream'. -/
def fnColorStreamCard : Claim7 := { stood := { row := fnColorStreamRow, standIns := [], harness := (true, "977f8b3d36f08ad5ecfe52211fd5863dd3e3b83d416ebc4a6795e26478be98c3"), looks := true }, kinds := [], alts := [], laidByText := true, laidKinds := [.handle, .data, .data, .data], laidTests := true, laidLooks := .later }
def FnColorStreamCardSaid : Prop := Claim7.holds Tryz.pinned (.plain (OpenSpec.ofChange fnColorStreamSpec)) fnColorStreamCard

/-- THE TIED CARD OF 'laws.FnQualityOrder'. -/
def fnQualityOrderCard : Claim7 := { stood := { row := fnQualityOrderRow, standIns := [], harness := (true, "977f8b3d36f08ad5ecfe52211fd5863dd3e3b83d416ebc4a6795e26478be98c3"), looks := true }, kinds := [], alts := [], laidByText := true, laidKinds := [.handle, .data, .data, .data], laidTests := true, laidLooks := .later }
def FnQualityOrderCardSaid : Prop := Claim7.holds Tryz.pinned (.plain (OpenSpec.ofChange fnQualityOrderSpec)) fnQualityOrderCard

/-- THE SECOND FORM's CARD OF 'laws.FnFlatBlocks'. -/
def fnFlatBlocksUptoCard : Claim7 := { stood := { row := fnFlatBlocksUptoRow, standIns := [], harness := (true, "977f8b3d36f08ad5ecfe52211fd5863dd3e3b83d416ebc4a6795e26478be98c3"), looks := true }, kinds := [], alts := [], laidByText := true, laidKinds := [.handle, .data, .data, .data], laidTests := true, laidLooks := .later }
def FnFlatBlocksUptoCardSaid : Prop := Claim7.holds Tryz.pinned (.plain (OpenSpec.upto fnFlatBlocksSpec)) fnFlatBlocksUptoCard

/-- THE SECOND FORM's CARD OF 'laws.FnGrayCoefficients'. -/
def fnGrayCoefficientsUptoCard : Claim7 := { stood := { row := fnGrayCoefficientsUptoRow, standIns := [], harness := (true, "977f8b3d36f08ad5ecfe52211fd5863dd3e3b83d416ebc4a6795e26478be98c3"), looks := true }, kinds := [], alts := [], laidByText := true, laidKinds := [.data, .data, .handle, .data, .data, .data], laidTests := true, laidLooks := .later }
def FnGrayCoefficientsUptoCardSaid : Prop := Claim7.holds Tryz.pinned (.plain (OpenSpec.upto fnGrayCoefficientsSpec)) fnGrayCoefficientsUptoCard

/-- THE SECOND FORM's CARD OF 'laws.FnGrayEdges'. -/
def fnGrayEdgesUptoCard : Claim7 := { stood := { row := fnGrayEdgesUptoRow, standIns := [], harness := (true, "977f8b3d36f08ad5ecfe52211fd5863dd3e3b83d416ebc4a6795e26478be98c3"), looks := true }, kinds := [], alts := [], laidByText := true, laidKinds := [.data, .data, .handle, .data, .data, .data], laidTests := true, laidLooks := .later }
def FnGrayEdgesUptoCardSaid : Prop := Claim7.holds Tryz.pinned (.plain (OpenSpec.upto fnGrayEdgesSpec)) fnGrayEdgesUptoCard

/-- THE SECOND FORM's CARD OF 'laws.FnGrayStream'. -/
def fnGrayStreamUptoCard : Claim7 := { stood := { row := fnGrayStreamUptoRow, standIns := [], harness := (true, "977f8b3d36f08ad5ecfe52211fd5863dd3e3b83d416ebc4a6795e26478be98c3"), looks := true }, kinds := [], alts := [], laidByText := true, laidKinds := [.handle, .data, .data, .data], laidTests := true, laidLooks := .later }
def FnGrayStreamUptoCardSaid : Prop := Claim7.holds Tryz.pinned (.plain (OpenSpec.upto fnGrayStreamSpec)) fnGrayStreamUptoCard

/-- THE SECOND FORM's CARD OF 'laws.FnColorCoefficients'. -/
def fnColorCoefficientsUptoCard : Claim7 := { stood := { row := fnColorCoefficientsUptoRow, standIns := [], harness := (true, "977f8b3d36f08ad5ecfe52211fd5863dd3e3b83d416ebc4a6795e26478be98c3"), looks := true }, kinds := [], alts := [], laidByText := true, laidKinds := [.data, .data, .handle, .data, .data, .data], laidTests := true, laidLooks := .later }
def FnColorCoefficientsUptoCardSaid : Prop := Claim7.holds Tryz.pinned (.plain (OpenSpec.upto fnColorCoefficientsSpec)) fnColorCoefficientsUptoCard

/-- THE SECOND FORM's CARD OF 'laws.FnColorEdges'. -/
def fnColorEdgesUptoCard : Claim7 := { stood := { row := fnColorEdgesUptoRow, standIns := [], harness := (true, "977f8b3d36f08ad5ecfe52211fd5863dd3e3b83d416ebc4a6795e26478be98c3"), looks := true }, kinds := [], alts := [], laidByText := true, laidKinds := [.data, .data, .handle, .data, .data, .data], laidTests := true, laidLooks := .later }
def FnColorEdgesUptoCardSaid : Prop := Claim7.holds Tryz.pinned (.plain (OpenSpec.upto fnColorEdgesSpec)) fnColorEdgesUptoCard

/-- THE SECOND FORM's CARD OF 'laws.FnColorStream'. -/
def fnColorStreamUptoCard : Claim7 := { stood := { row := fnColorStreamUptoRow, standIns := [], harness := (true, "977f8b3d36f08ad5ecfe52211fd5863dd3e3b83d416ebc4a6795e26478be98c3"), looks := true }, kinds := [], alts := [], laidByText := true, laidKinds := [.handle, .data, .data, .data], laidTests := true, laidLooks := .later }
def FnColorStreamUptoCardSaid : Prop := Claim7.holds Tryz.pinned (.plain (OpenSpec.upto fnColorStreamSpec)) fnColorStreamUptoCard

/-- THE SECOND FORM's CARD OF 'laws.FnQualityOrder'. -/
def fnQualityOrderUptoCard : Claim7 := { stood := { row := fnQualityOrderUptoRow, standIns := [], harness := (true, "977f8b3d36f08ad5ecfe52211fd5863dd3e3b83d416ebc4a6795e26478be98c3"), looks := true }, kinds := [], alts := [], laidByText := true, laidKinds := [.handle, .data, .data, .data], laidTests := true, laidLooks := .later }
def FnQualityOrderUptoCardSaid : Prop := Claim7.holds Tryz.pinned (.plain (OpenSpec.upto fnQualityOrderSpec)) fnQualityOrderUptoCard
end Rows
end Go.Proofs.YtljjbikbfeigdaaGreatDoor
