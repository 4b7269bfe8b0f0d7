/-
  DERIVED. GIVEN WITH THE SEED: THE CARDS: each row of YtkhgaenffnoimaaGreatDoorRows.lean that lists a variable, with what it lists TIED to the program's text (the seventh form; the later family's looks); each row that meets fmt, with fmt's text TOLD by the authors' own Lean function (tested against real Go, not proved from fmt's source: count such statements apart). THE CARD IS WHAT COUNTS. Prove the row's statement (the work); the ties are given (YtkhgaenffnoimaaGreatDoorTie.lean); close each card by the builder's one call (the guide's Derived/Test/ToyasCard.lean, 'card_holds'). Laid BY PROGRAM, IN A SANDBOX (cutbox-door.mjs). By AI agents, Wed Nov 11 2026. No macro, syntax, notation, axiom, sorry.
-/
import Derived.Test.YtkhgaenffnoimaaGreatDoorRows
import GoSem.ClaimSeven
namespace Go.Proofs.YtkhgaenffnoimaaGreatDoor
namespace Rows

/-- THE TIED CARD OF 'laws.FnMean'. -/
def fnMeanCard : Claim7 := { stood := { row := fnMeanRow, standIns := [], harness := (true, "feced3cab88ef0fec9adc72d896e556bcedce435f2152df8077b76b3ff662587"), looks := true }, kinds := [], alts := [], laidByText := true, laidKinds := [.data, .data, .widerDeep, .widerDeep, .data, .data, .data, .data, .data, .sentinel, .sentinel, .pinned, .pinned], laidTests := true, laidLooks := .later }
def FnMeanCardSaid : Prop := Claim7.holds Tryz.pinned (.plain (OpenSpec.ofChange fnMeanSpec)) fnMeanCard

/-- THE TIED CARD OF 'laws.FnNegated'. -/
def fnNegatedCard : Claim7 := { stood := { row := fnNegatedRow, standIns := [], harness := (true, "feced3cab88ef0fec9adc72d896e556bcedce435f2152df8077b76b3ff662587"), looks := true }, kinds := [], alts := [], laidByText := true, laidKinds := [.data, .data, .widerDeep, .widerDeep, .data, .data, .data, .data, .data, .data, .sentinel, .sentinel, .data, .data, .pinned, .pinned, .pinned, .pinned], laidTests := true, laidLooks := .later }
def FnNegatedCardSaid : Prop := Claim7.holds Tryz.pinned (.plain (OpenSpec.ofChange fnNegatedSpec)) fnNegatedCard

/-- THE TIED CARD OF 'laws.FnBaseDecimal'. -/
def fnBaseDecimalCard : Claim7 := { stood := { row := fnBaseDecimalRow, standIns := [], harness := (true, "feced3cab88ef0fec9adc72d896e556bcedce435f2152df8077b76b3ff662587"), looks := true }, kinds := [], alts := [], laidByText := true, laidKinds := [.data, .data, .widerDeep, .widerDeep, .data, .data, .data, .data, .data, .data, .sentinel, .sentinel, .pinned, .pinned, .pinned, .pinned], laidTests := true, laidLooks := .later }
def FnBaseDecimalCardSaid : Prop := Claim7.holds Tryz.pinned (.plain (OpenSpec.ofChange fnBaseDecimalSpec)) fnBaseDecimalCard

/-- THE TIED CARD OF 'laws.FnDecBase'. -/
def fnDecBaseCard : Claim7 := { stood := { row := fnDecBaseRow, standIns := [], harness := (true, "feced3cab88ef0fec9adc72d896e556bcedce435f2152df8077b76b3ff662587"), looks := true }, kinds := [], alts := [], laidByText := true, laidKinds := [.data, .data, .widerDeep, .widerDeep, .data, .data, .data, .data, .data, .data, .sentinel, .sentinel, .pinned, .pinned, .pinned, .pinned], laidTests := true, laidLooks := .later }
def FnDecBaseCardSaid : Prop := Claim7.holds Tryz.pinned (.plain (OpenSpec.ofChange fnDecBaseSpec)) fnDecBaseCard

/-- THE SECOND FORM's CARD OF 'laws.FnMean'. -/
def fnMeanUptoCard : Claim7 := { stood := { row := fnMeanUptoRow, standIns := [], harness := (true, "feced3cab88ef0fec9adc72d896e556bcedce435f2152df8077b76b3ff662587"), looks := true }, kinds := [], alts := [], laidByText := true, laidKinds := [.data, .data, .widerDeep, .widerDeep, .data, .data, .data, .data, .data, .sentinel, .sentinel, .pinned, .pinned], laidTests := true, laidLooks := .later }
def FnMeanUptoCardSaid : Prop := Claim7.holds Tryz.pinned (.plain (OpenSpec.upto fnMeanSpec)) fnMeanUptoCard

/-- THE SECOND FORM's CARD OF 'laws.FnNegated'. -/
def fnNegatedUptoCard : Claim7 := { stood := { row := fnNegatedUptoRow, standIns := [], harness := (true, "feced3cab88ef0fec9adc72d896e556bcedce435f2152df8077b76b3ff662587"), looks := true }, kinds := [], alts := [], laidByText := true, laidKinds := [.data, .data, .widerDeep, .widerDeep, .data, .data, .data, .data, .data, .data, .sentinel, .sentinel, .data, .data, .pinned, .pinned, .pinned, .pinned], laidTests := true, laidLooks := .later }
def FnNegatedUptoCardSaid : Prop := Claim7.holds Tryz.pinned (.plain (OpenSpec.upto fnNegatedSpec)) fnNegatedUptoCard

/-- THE SECOND FORM's CARD OF 'laws.FnBaseDecimal'. -/
def fnBaseDecimalUptoCard : Claim7 := { stood := { row := fnBaseDecimalUptoRow, standIns := [], harness := (true, "feced3cab88ef0fec9adc72d896e556bcedce435f2152df8077b76b3ff662587"), looks := true }, kinds := [], alts := [], laidByText := true, laidKinds := [.data, .data, .widerDeep, .widerDeep, .data, .data, .data, .data, .data, .data, .sentinel, .sentinel, .pinned, .pinned, .pinned, .pinned], laidTests := true, laidLooks := .later }
def FnBaseDecimalUptoCardSaid : Prop := Claim7.holds Tryz.pinned (.plain (OpenSpec.upto fnBaseDecimalSpec)) fnBaseDecimalUptoCard

/-- THE SECOND FORM's CARD OF 'laws.FnDecBase'. -/
def fnDecBaseUptoCard : Claim7 := { stood := { row := fnDecBaseUptoRow, standIns := [], harness := (true, "feced3cab88ef0fec9adc72d896e556bcedce435f2152df8077b76b3ff662587"), looks := true }, kinds := [], alts := [], laidByText := true, laidKinds := [.data, .data, .widerDeep, .widerDeep, .data, .data, .data, .data, .data, .data, .sentinel, .sentinel, .pinned, .pinned, .pinned, .pinned], laidTests := true, laidLooks := .later }
def FnDecBaseUptoCardSaid : Prop := Claim7.holds Tryz.pinned (.plain (OpenSpec.upto fnDecBaseSpec)) fnDecBaseUptoCard
end Rows
end Go.Proofs.YtkhgaenffnoimaaGreatDoor
