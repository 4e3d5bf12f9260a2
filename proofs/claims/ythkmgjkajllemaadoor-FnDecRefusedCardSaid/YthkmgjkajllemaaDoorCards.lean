/-
  DERIVED. GIVEN WITH THE SEED: THE CARDS: each row of YthkmgjkajllemaaDoorRows.lean that lists a variable, with what it lists TIED to the program's text (the seventh form; the later family's looks); each row that meets fmt, with fmt's text TOLD by the authors' own Lean function (tested against real Go, not proved from fmt's source: count such statements apart). THE CARD IS WHAT COUNTS. Prove the row's statement (the work); the ties are given (YthkmgjkajllemaaDoorTie.lean); close each card by the builder's one call (the guide's Derived/Test/ToyasCard.lean, 'card_holds'). Laid BY PROGRAM, IN A SANDBOX (cutbox-door.mjs). By AI agents, Wed Nov 11 2026. No macro, syntax, notation, axiom, sorry.
-/
import Derived.Test.YthkmgjkajllemaaDoorRows
import GoSem.ClaimSeven
namespace Go.Proofs.YthkmgjkajllemaaDoor
namespace Rows

/-- THE TIED CARD OF 'laws.FnFintDigits'. -/
def fnFintDigitsCard : Claim7 := { stood := { row := fnFintDigitsRow, standIns := [], harness := (true, "dc9b6208310bcd16f73b49aa9423dccd89f57f3bb8954b339168087ffba83592"), looks := true }, kinds := [], alts := [], laidByText := true, laidKinds := [.data], laidTests := true, laidLooks := .later }
def FnFintDigitsCardSaid : Prop := Claim7.holds Tryd.pinned (.plain (OpenSpec.ofChange fnFintDigitsSpec)) fnFintDigitsCard

/-- THE TIED CARD OF 'laws.FnFixNew'. -/
def fnFixNewCard : Claim7 := { stood := { row := fnFixNewRow, standIns := [], harness := (true, "dc9b6208310bcd16f73b49aa9423dccd89f57f3bb8954b339168087ffba83592"), looks := true }, kinds := [], alts := [], laidByText := true, laidKinds := [.sentinel, .sentinel], laidTests := true, laidLooks := .later }
def FnFixNewCardSaid : Prop := Claim7.holds Tryd.pinned (.plain (OpenSpec.ofChange fnFixNewSpec)) fnFixNewCard

/-- THE TIED CARD OF 'laws.FnFixUnits'. -/
def fnFixUnitsCard : Claim7 := { stood := { row := fnFixUnitsRow, standIns := [], harness := (true, "dc9b6208310bcd16f73b49aa9423dccd89f57f3bb8954b339168087ffba83592"), looks := true }, kinds := [], alts := [], laidByText := true, laidKinds := [.sentinel, .sentinel, .data], laidTests := true, laidLooks := .later }
def FnFixUnitsCardSaid : Prop := Claim7.holds Tryd.pinned (.plain (OpenSpec.ofChange fnFixUnitsSpec)) fnFixUnitsCard

/-- THE TIED CARD OF 'laws.FnFixCeil'. -/
def fnFixCeilCard : Claim7 := { stood := { row := fnFixCeilRow, standIns := [], harness := (true, "dc9b6208310bcd16f73b49aa9423dccd89f57f3bb8954b339168087ffba83592"), looks := true }, kinds := [], alts := [], laidByText := true, laidKinds := [.sentinel, .sentinel, .data], laidTests := true, laidLooks := .later }
def FnFixCeilCardSaid : Prop := Claim7.holds Tryd.pinned (.plain (OpenSpec.ofChange fnFixCeilSpec)) fnFixCeilCard

/-- THE TIED CARD OF 'laws.FnFixInts'. -/
def fnFixIntsCard : Claim7 := { stood := { row := fnFixIntsRow, standIns := [], harness := (true, "dc9b6208310bcd16f73b49aa9423dccd89f57f3bb8954b339168087ffba83592"), looks := true }, kinds := [], alts := [], laidByText := true, laidKinds := [.sentinel, .sentinel, .data], laidTests := true, laidLooks := .later }
def FnFixIntsCardSaid : Prop := Claim7.holds Tryd.pinned (.plain (OpenSpec.ofChange fnFixIntsSpec)) fnFixIntsCard

/-- THE TIED CARD OF 'laws.FnFixRescale'. -/
def fnFixRescaleCard : Claim7 := { stood := { row := fnFixRescaleRow, standIns := [], harness := (true, "dc9b6208310bcd16f73b49aa9423dccd89f57f3bb8954b339168087ffba83592"), looks := true }, kinds := [], alts := [], laidByText := true, laidKinds := [.sentinel, .sentinel, .data], laidTests := true, laidLooks := .later }
def FnFixRescaleCardSaid : Prop := Claim7.holds Tryd.pinned (.plain (OpenSpec.ofChange fnFixRescaleSpec)) fnFixRescaleCard

/-- THE TIED CARD OF 'laws.FnDecRefused'. -/
def fnDecRefusedCard : Claim7 := { stood := { row := fnDecRefusedRow, standIns := [], harness := (true, "dc9b6208310bcd16f73b49aa9423dccd89f57f3bb8954b339168087ffba83592"), looks := true }, kinds := [], alts := [], laidByText := true, laidKinds := [.data, .data, .data, .sentinel, .sentinel, .sentinel, .sentinel, .sentinel, .data], laidTests := true, laidLooks := .later }
def FnDecRefusedCardSaid : Prop := Claim7.holds Tryd.pinned (.plain (OpenSpec.ofChange fnDecRefusedSpec)) fnDecRefusedCard

/-- THE SECOND FORM's CARD OF 'laws.FnFintDigits'. -/
def fnFintDigitsUptoCard : Claim7 := { stood := { row := fnFintDigitsUptoRow, standIns := [], harness := (true, "dc9b6208310bcd16f73b49aa9423dccd89f57f3bb8954b339168087ffba83592"), looks := true }, kinds := [], alts := [], laidByText := true, laidKinds := [.data], laidTests := true, laidLooks := .later }
def FnFintDigitsUptoCardSaid : Prop := Claim7.holds Tryd.pinned (.plain (OpenSpec.upto fnFintDigitsSpec)) fnFintDigitsUptoCard

/-- THE SECOND FORM's CARD OF 'laws.FnFixNew'. -/
def fnFixNewUptoCard : Claim7 := { stood := { row := fnFixNewUptoRow, standIns := [], harness := (true, "dc9b6208310bcd16f73b49aa9423dccd89f57f3bb8954b339168087ffba83592"), looks := true }, kinds := [], alts := [], laidByText := true, laidKinds := [.sentinel, .sentinel], laidTests := true, laidLooks := .later }
def FnFixNewUptoCardSaid : Prop := Claim7.holds Tryd.pinned (.plain (OpenSpec.upto fnFixNewSpec)) fnFixNewUptoCard

/-- THE SECOND FORM's CARD OF 'laws.FnFixUnits'. -/
def fnFixUnitsUptoCard : Claim7 := { stood := { row := fnFixUnitsUptoRow, standIns := [], harness := (true, "dc9b6208310bcd16f73b49aa9423dccd89f57f3bb8954b339168087ffba83592"), looks := true }, kinds := [], alts := [], laidByText := true, laidKinds := [.sentinel, .sentinel, .data], laidTests := true, laidLooks := .later }
def FnFixUnitsUptoCardSaid : Prop := Claim7.holds Tryd.pinned (.plain (OpenSpec.upto fnFixUnitsSpec)) fnFixUnitsUptoCard

/-- THE SECOND FORM's CARD OF 'laws.FnFixCeil'. -/
def fnFixCeilUptoCard : Claim7 := { stood := { row := fnFixCeilUptoRow, standIns := [], harness := (true, "dc9b6208310bcd16f73b49aa9423dccd89f57f3bb8954b339168087ffba83592"), looks := true }, kinds := [], alts := [], laidByText := true, laidKinds := [.sentinel, .sentinel, .data], laidTests := true, laidLooks := .later }
def FnFixCeilUptoCardSaid : Prop := Claim7.holds Tryd.pinned (.plain (OpenSpec.upto fnFixCeilSpec)) fnFixCeilUptoCard

/-- THE SECOND FORM's CARD OF 'laws.FnFixInts'. -/
def fnFixIntsUptoCard : Claim7 := { stood := { row := fnFixIntsUptoRow, standIns := [], harness := (true, "dc9b6208310bcd16f73b49aa9423dccd89f57f3bb8954b339168087ffba83592"), looks := true }, kinds := [], alts := [], laidByText := true, laidKinds := [.sentinel, .sentinel, .data], laidTests := true, laidLooks := .later }
def FnFixIntsUptoCardSaid : Prop := Claim7.holds Tryd.pinned (.plain (OpenSpec.upto fnFixIntsSpec)) fnFixIntsUptoCard

/-- THE SECOND FORM's CARD OF 'laws.FnFixRescale'. -/
def fnFixRescaleUptoCard : Claim7 := { stood := { row := fnFixRescaleUptoRow, standIns := [], harness := (true, "dc9b6208310bcd16f73b49aa9423dccd89f57f3bb8954b339168087ffba83592"), looks := true }, kinds := [], alts := [], laidByText := true, laidKinds := [.sentinel, .sentinel, .data], laidTests := true, laidLooks := .later }
def FnFixRescaleUptoCardSaid : Prop := Claim7.holds Tryd.pinned (.plain (OpenSpec.upto fnFixRescaleSpec)) fnFixRescaleUptoCard

/-- THE SECOND FORM's CARD OF 'laws.FnDecRefused'. -/
def fnDecRefusedUptoCard : Claim7 := { stood := { row := fnDecRefusedUptoRow, standIns := [], harness := (true, "dc9b6208310bcd16f73b49aa9423dccd89f57f3bb8954b339168087ffba83592"), looks := true }, kinds := [], alts := [], laidByText := true, laidKinds := [.data, .data, .data, .sentinel, .sentinel, .sentinel, .sentinel, .sentinel, .data], laidTests := true, laidLooks := .later }
def FnDecRefusedUptoCardSaid : Prop := Claim7.holds Tryd.pinned (.plain (OpenSpec.upto fnDecRefusedSpec)) fnDecRefusedUptoCard
end Rows
end Go.Proofs.YthkmgjkajllemaaDoor
