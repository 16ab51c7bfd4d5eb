/-
  DERIVED. GIVEN WITH THE SEED: THE CARDS: each row of YtidifjmjbfhpaaaDoorRows.lean that lists a variable, with what it lists TIED to the program's text (the seventh form; the later family's looks); each row that meets fmt, with fmt's text TOLD by the authors' own Lean function (tested against real Go, not proved from fmt's source: count such statements apart). THE CARD IS WHAT COUNTS. Prove the row's statement (the work); the ties are given (YtidifjmjbfhpaaaDoorTie.lean); close each card by the builder's one call (the guide's Derived/Test/ToyasCard.lean, 'card_holds'). Laid BY PROGRAM, IN A SANDBOX (cutbox-door.mjs). By AI agents, Wed Nov 11 2026. No macro, syntax, notation, axiom, sorry.
-/
import Derived.Test.YtidifjmjbfhpaaaDoorRows
import GoSem.ClaimSeven
namespace Go.Proofs.YtidifjmjbfhpaaaDoor
namespace Rows

/-- THE TIED CARD OF 'laws.FnZeros'. -/
def fnZerosCard : Claim7 := { stood := { row := fnZerosRow, standIns := [], harness := (true, "4b4ce174d250ed99c369f5053082a5b96ef352ce64f8fb0676dc170ad3d306f5"), looks := true }, kinds := [], alts := [], laidByText := true, laidKinds := [.data, .data], laidTests := true, laidLooks := .later }
def FnZerosCardSaid : Prop := Claim7.holds Tryd.pinned (.plain (OpenSpec.ofChange fnZerosSpec)) fnZerosCard

/-- THE TIED CARD OF 'laws.FnBit'. -/
def fnBitCard : Claim7 := { stood := { row := fnBitRow, standIns := [], harness := (true, "4b4ce174d250ed99c369f5053082a5b96ef352ce64f8fb0676dc170ad3d306f5"), looks := true }, kinds := [], alts := [], laidByText := true, laidKinds := [.widerDeep], laidTests := true, laidLooks := .later }
def FnBitCardSaid : Prop := Claim7.holds Tryd.pinned (.plain (OpenSpec.ofChange fnBitSpec)) fnBitCard

/-- THE TIED CARD OF 'laws.FnSetBit'. -/
def fnSetBitCard : Claim7 := { stood := { row := fnSetBitRow, standIns := [], harness := (true, "4b4ce174d250ed99c369f5053082a5b96ef352ce64f8fb0676dc170ad3d306f5"), looks := true }, kinds := [], alts := [], laidByText := true, laidKinds := [.widerDeep], laidTests := true, laidLooks := .later }
def FnSetBitCardSaid : Prop := Claim7.holds Tryd.pinned (.plain (OpenSpec.ofChange fnSetBitSpec)) fnSetBitCard

/-- THE TIED CARD OF 'laws.FnParse'. -/
def fnParseCard : Claim7 := { stood := { row := fnParseRow, standIns := [], harness := (true, "4b4ce174d250ed99c369f5053082a5b96ef352ce64f8fb0676dc170ad3d306f5"), looks := true }, kinds := [], alts := [], laidByText := true, laidKinds := [.sentinel, .sentinel, .sentinel], laidTests := true, laidLooks := .later }
def FnParseCardSaid : Prop := Claim7.holds Tryd.pinned (.plain (OpenSpec.ofChange fnParseSpec)) fnParseCard

/-- THE TIED CARD OF 'laws.FnBits'. -/
def fnBitsCard : Claim7 := { stood := { row := fnBitsRow, standIns := [], harness := (true, "4b4ce174d250ed99c369f5053082a5b96ef352ce64f8fb0676dc170ad3d306f5"), looks := true }, kinds := [], alts := [], laidByText := true, laidKinds := [.widerDeep], laidTests := true, laidLooks := .later }
def FnBitsCardSaid : Prop := Claim7.holds Tryd.pinned (.plain (OpenSpec.ofChange fnBitsSpec)) fnBitsCard

/-- THE TIED CARD OF 'laws.FnDeMorgan'. -/
def fnDeMorganCard : Claim7 := { stood := { row := fnDeMorganRow, standIns := [], harness := (true, "4b4ce174d250ed99c369f5053082a5b96ef352ce64f8fb0676dc170ad3d306f5"), looks := true }, kinds := [], alts := [], laidByText := true, laidKinds := [.widerDeep], laidTests := true, laidLooks := .later }
def FnDeMorganCardSaid : Prop := Claim7.holds Tryd.pinned (.plain (OpenSpec.ofChange fnDeMorganSpec)) fnDeMorganCard

/-- THE TIED CARD OF 'laws.FnNotNot'. -/
def fnNotNotCard : Claim7 := { stood := { row := fnNotNotRow, standIns := [], harness := (true, "4b4ce174d250ed99c369f5053082a5b96ef352ce64f8fb0676dc170ad3d306f5"), looks := true }, kinds := [], alts := [], laidByText := true, laidKinds := [.widerDeep], laidTests := true, laidLooks := .later }
def FnNotNotCardSaid : Prop := Claim7.holds Tryd.pinned (.plain (OpenSpec.ofChange fnNotNotSpec)) fnNotNotCard

/-- THE SECOND FORM's CARD OF 'laws.FnZeros'. -/
def fnZerosUptoCard : Claim7 := { stood := { row := fnZerosUptoRow, standIns := [], harness := (true, "4b4ce174d250ed99c369f5053082a5b96ef352ce64f8fb0676dc170ad3d306f5"), looks := true }, kinds := [], alts := [], laidByText := true, laidKinds := [.data, .data], laidTests := true, laidLooks := .later }
def FnZerosUptoCardSaid : Prop := Claim7.holds Tryd.pinned (.plain (OpenSpec.upto fnZerosSpec)) fnZerosUptoCard

/-- THE SECOND FORM's CARD OF 'laws.FnBit'. -/
def fnBitUptoCard : Claim7 := { stood := { row := fnBitUptoRow, standIns := [], harness := (true, "4b4ce174d250ed99c369f5053082a5b96ef352ce64f8fb0676dc170ad3d306f5"), looks := true }, kinds := [], alts := [], laidByText := true, laidKinds := [.widerDeep], laidTests := true, laidLooks := .later }
def FnBitUptoCardSaid : Prop := Claim7.holds Tryd.pinned (.plain (OpenSpec.upto fnBitSpec)) fnBitUptoCard

/-- THE SECOND FORM's CARD OF 'laws.FnSetBit'. -/
def fnSetBitUptoCard : Claim7 := { stood := { row := fnSetBitUptoRow, standIns := [], harness := (true, "4b4ce174d250ed99c369f5053082a5b96ef352ce64f8fb0676dc170ad3d306f5"), looks := true }, kinds := [], alts := [], laidByText := true, laidKinds := [.widerDeep], laidTests := true, laidLooks := .later }
def FnSetBitUptoCardSaid : Prop := Claim7.holds Tryd.pinned (.plain (OpenSpec.upto fnSetBitSpec)) fnSetBitUptoCard

/-- THE SECOND FORM's CARD OF 'laws.FnParse'. -/
def fnParseUptoCard : Claim7 := { stood := { row := fnParseUptoRow, standIns := [], harness := (true, "4b4ce174d250ed99c369f5053082a5b96ef352ce64f8fb0676dc170ad3d306f5"), looks := true }, kinds := [], alts := [], laidByText := true, laidKinds := [.sentinel, .sentinel, .sentinel], laidTests := true, laidLooks := .later }
def FnParseUptoCardSaid : Prop := Claim7.holds Tryd.pinned (.plain (OpenSpec.upto fnParseSpec)) fnParseUptoCard

/-- THE SECOND FORM's CARD OF 'laws.FnBits'. -/
def fnBitsUptoCard : Claim7 := { stood := { row := fnBitsUptoRow, standIns := [], harness := (true, "4b4ce174d250ed99c369f5053082a5b96ef352ce64f8fb0676dc170ad3d306f5"), looks := true }, kinds := [], alts := [], laidByText := true, laidKinds := [.widerDeep], laidTests := true, laidLooks := .later }
def FnBitsUptoCardSaid : Prop := Claim7.holds Tryd.pinned (.plain (OpenSpec.upto fnBitsSpec)) fnBitsUptoCard

/-- THE SECOND FORM's CARD OF 'laws.FnDeMorgan'. -/
def fnDeMorganUptoCard : Claim7 := { stood := { row := fnDeMorganUptoRow, standIns := [], harness := (true, "4b4ce174d250ed99c369f5053082a5b96ef352ce64f8fb0676dc170ad3d306f5"), looks := true }, kinds := [], alts := [], laidByText := true, laidKinds := [.widerDeep], laidTests := true, laidLooks := .later }
def FnDeMorganUptoCardSaid : Prop := Claim7.holds Tryd.pinned (.plain (OpenSpec.upto fnDeMorganSpec)) fnDeMorganUptoCard

/-- THE SECOND FORM's CARD OF 'laws.FnNotNot'. -/
def fnNotNotUptoCard : Claim7 := { stood := { row := fnNotNotUptoRow, standIns := [], harness := (true, "4b4ce174d250ed99c369f5053082a5b96ef352ce64f8fb0676dc170ad3d306f5"), looks := true }, kinds := [], alts := [], laidByText := true, laidKinds := [.widerDeep], laidTests := true, laidLooks := .later }
def FnNotNotUptoCardSaid : Prop := Claim7.holds Tryd.pinned (.plain (OpenSpec.upto fnNotNotSpec)) fnNotNotUptoCard
end Rows
end Go.Proofs.YtidifjmjbfhpaaaDoor
