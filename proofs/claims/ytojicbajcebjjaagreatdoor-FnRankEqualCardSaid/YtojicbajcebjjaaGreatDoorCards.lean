/-
  DERIVED. GIVEN WITH THE SEED: THE CARDS: each row of YtojicbajcebjjaaGreatDoorRows.lean that lists a variable, with what it lists TIED to the program's text (the seventh form; the later family's looks); each row that meets fmt, with fmt's text TOLD by the authors' own Lean function (tested against real Go, not proved from fmt's source: count such statements apart). THE CARD IS WHAT COUNTS. Prove the row's statement (the work); the ties are given (YtojicbajcebjjaaGreatDoorTie.lean); close each card by the builder's one call (the guide's Derived/Test/ToyasCard.lean, 'card_holds'). Laid BY PROGRAM, IN A SANDBOX (cutbox-door.mjs). By AI agents, Wed Nov 11 2026. No macro, syntax, notation, axiom, sorry.
-/
import Derived.Test.YtojicbajcebjjaaGreatDoorRows
import GoSem.ClaimSeven
namespace Go.Proofs.YtojicbajcebjjaaGreatDoor
namespace Rows

/-- THE TIED CARD OF 'laws.FnSquares'. -/
def fnSquaresCard : Claim7 := { stood := { row := fnSquaresRow, standIns := [], harness := (true, "f58746465e3c94516f16cdc68f997987f6a84ba9edfbbf4745dfb81cf42959bd"), looks := true }, kinds := [], alts := [], laidByText := true, laidKinds := [.data, .data, .widerDeep, .widerDeep, .data, .data, .data, .data, .data, .sentinel, .sentinel, .pinned, .pinned], laidTests := true, laidLooks := .later }
def FnSquaresCardSaid : Prop := Claim7.holds Tryz.pinned (.plain (OpenSpec.ofChange fnSquaresSpec)) fnSquaresCard

/-- THE TIED CARD OF 'laws.FnCombin'. -/
def fnCombinCard : Claim7 := { stood := { row := fnCombinRow, standIns := [], harness := (true, "f58746465e3c94516f16cdc68f997987f6a84ba9edfbbf4745dfb81cf42959bd"), looks := true }, kinds := [], alts := [], laidByText := true, laidKinds := [.data, .data, .widerDeep, .widerDeep, .data, .data, .data, .data, .data, .sentinel, .sentinel, .pinned, .pinned], laidTests := true, laidLooks := .later }
def FnCombinCardSaid : Prop := Claim7.holds Tryz.pinned (.plain (OpenSpec.ofChange fnCombinSpec)) fnCombinCard

/-- THE TIED CARD OF 'laws.FnPascal'. -/
def fnPascalCard : Claim7 := { stood := { row := fnPascalRow, standIns := [], harness := (true, "f58746465e3c94516f16cdc68f997987f6a84ba9edfbbf4745dfb81cf42959bd"), looks := true }, kinds := [], alts := [], laidByText := true, laidKinds := [.data, .data, .widerDeep, .widerDeep, .data, .data, .data, .data, .data, .sentinel, .sentinel, .pinned, .pinned], laidTests := true, laidLooks := .later }
def FnPascalCardSaid : Prop := Claim7.holds Tryz.pinned (.plain (OpenSpec.ofChange fnPascalSpec)) fnPascalCard

/-- THE TIED CARD OF 'laws.FnMultinomial'. -/
def fnMultinomialCard : Claim7 := { stood := { row := fnMultinomialRow, standIns := [], harness := (true, "f58746465e3c94516f16cdc68f997987f6a84ba9edfbbf4745dfb81cf42959bd"), looks := true }, kinds := [], alts := [], laidByText := true, laidKinds := [.data, .data, .widerDeep, .widerDeep, .data, .data, .data, .data, .data, .sentinel, .sentinel, .pinned, .pinned], laidTests := true, laidLooks := .later }
def FnMultinomialCardSaid : Prop := Claim7.holds Tryz.pinned (.plain (OpenSpec.ofChange fnMultinomialSpec)) fnMultinomialCard

/-- THE TIED CARD OF 'laws.FnRoman'. -/
def fnRomanCard : Claim7 := { stood := { row := fnRomanRow, standIns := [], harness := (true, "f58746465e3c94516f16cdc68f997987f6a84ba9edfbbf4745dfb81cf42959bd"), looks := true }, kinds := [], alts := [], laidByText := true, laidKinds := [.data, .data, .widerDeep, .widerDeep, .data, .data, .data, .data, .data, .sentinel, .sentinel, .sentinel, .widerDeep, .pinned, .pinned], laidTests := true, laidLooks := .later }
def FnRomanCardSaid : Prop := Claim7.holds Tryz.pinned (.plain (OpenSpec.ofChange fnRomanSpec)) fnRomanCard

/-- THE TIED CARD OF 'laws.FnMultiples'. -/
def fnMultiplesCard : Claim7 := { stood := { row := fnMultiplesRow, standIns := [], harness := (true, "f58746465e3c94516f16cdc68f997987f6a84ba9edfbbf4745dfb81cf42959bd"), looks := true }, kinds := [], alts := [], laidByText := true, laidKinds := [.data, .data, .widerDeep, .widerDeep, .data, .data, .data, .data, .data, .sentinel, .sentinel, .pinned, .pinned], laidTests := true, laidLooks := .later }
def FnMultiplesCardSaid : Prop := Claim7.holds Tryz.pinned (.plain (OpenSpec.ofChange fnMultiplesSpec)) fnMultiplesCard

/-- THE TIED CARD OF 'laws.FnPermut'. -/
def fnPermutCard : Claim7 := { stood := { row := fnPermutRow, standIns := [], harness := (true, "f58746465e3c94516f16cdc68f997987f6a84ba9edfbbf4745dfb81cf42959bd"), looks := true }, kinds := [], alts := [], laidByText := true, laidKinds := [.data, .data, .widerDeep, .widerDeep, .data, .data, .data, .data, .data, .sentinel, .sentinel, .pinned, .pinned], laidTests := true, laidLooks := .later }
def FnPermutCardSaid : Prop := Claim7.holds Tryz.pinned (.plain (OpenSpec.ofChange fnPermutSpec)) fnPermutCard

/-- THE TIED CARD OF 'laws.FnRankEqual'. -/
def fnRankEqualCard : Claim7 := { stood := { row := fnRankEqualRow, standIns := [], harness := (true, "f58746465e3c94516f16cdc68f997987f6a84ba9edfbbf4745dfb81cf42959bd"), looks := true }, kinds := [], alts := [], laidByText := true, laidKinds := [.data, .data, .widerDeep, .widerDeep, .data, .data, .data, .data, .data, .sentinel, .sentinel, .pinned, .pinned], laidTests := true, laidLooks := .later }
def FnRankEqualCardSaid : Prop := Claim7.holds Tryz.pinned (.plain (OpenSpec.ofChange fnRankEqualSpec)) fnRankEqualCard

/-- THE SECOND FORM's CARD OF 'laws.FnSquares'. -/
def fnSquaresUptoCard : Claim7 := { stood := { row := fnSquaresUptoRow, standIns := [], harness := (true, "f58746465e3c94516f16cdc68f997987f6a84ba9edfbbf4745dfb81cf42959bd"), looks := true }, kinds := [], alts := [], laidByText := true, laidKinds := [.data, .data, .widerDeep, .widerDeep, .data, .data, .data, .data, .data, .sentinel, .sentinel, .pinned, .pinned], laidTests := true, laidLooks := .later }
def FnSquaresUptoCardSaid : Prop := Claim7.holds Tryz.pinned (.plain (OpenSpec.upto fnSquaresSpec)) fnSquaresUptoCard

/-- THE SECOND FORM's CARD OF 'laws.FnCombin'. -/
def fnCombinUptoCard : Claim7 := { stood := { row := fnCombinUptoRow, standIns := [], harness := (true, "f58746465e3c94516f16cdc68f997987f6a84ba9edfbbf4745dfb81cf42959bd"), looks := true }, kinds := [], alts := [], laidByText := true, laidKinds := [.data, .data, .widerDeep, .widerDeep, .data, .data, .data, .data, .data, .sentinel, .sentinel, .pinned, .pinned], laidTests := true, laidLooks := .later }
def FnCombinUptoCardSaid : Prop := Claim7.holds Tryz.pinned (.plain (OpenSpec.upto fnCombinSpec)) fnCombinUptoCard

/-- THE SECOND FORM's CARD OF 'laws.FnPascal'. -/
def fnPascalUptoCard : Claim7 := { stood := { row := fnPascalUptoRow, standIns := [], harness := (true, "f58746465e3c94516f16cdc68f997987f6a84ba9edfbbf4745dfb81cf42959bd"), looks := true }, kinds := [], alts := [], laidByText := true, laidKinds := [.data, .data, .widerDeep, .widerDeep, .data, .data, .data, .data, .data, .sentinel, .sentinel, .pinned, .pinned], laidTests := true, laidLooks := .later }
def FnPascalUptoCardSaid : Prop := Claim7.holds Tryz.pinned (.plain (OpenSpec.upto fnPascalSpec)) fnPascalUptoCard

/-- THE SECOND FORM's CARD OF 'laws.FnMultinomial'. -/
def fnMultinomialUptoCard : Claim7 := { stood := { row := fnMultinomialUptoRow, standIns := [], harness := (true, "f58746465e3c94516f16cdc68f997987f6a84ba9edfbbf4745dfb81cf42959bd"), looks := true }, kinds := [], alts := [], laidByText := true, laidKinds := [.data, .data, .widerDeep, .widerDeep, .data, .data, .data, .data, .data, .sentinel, .sentinel, .pinned, .pinned], laidTests := true, laidLooks := .later }
def FnMultinomialUptoCardSaid : Prop := Claim7.holds Tryz.pinned (.plain (OpenSpec.upto fnMultinomialSpec)) fnMultinomialUptoCard

/-- THE SECOND FORM's CARD OF 'laws.FnRoman'. -/
def fnRomanUptoCard : Claim7 := { stood := { row := fnRomanUptoRow, standIns := [], harness := (true, "f58746465e3c94516f16cdc68f997987f6a84ba9edfbbf4745dfb81cf42959bd"), looks := true }, kinds := [], alts := [], laidByText := true, laidKinds := [.data, .data, .widerDeep, .widerDeep, .data, .data, .data, .data, .data, .sentinel, .sentinel, .sentinel, .widerDeep, .pinned, .pinned], laidTests := true, laidLooks := .later }
def FnRomanUptoCardSaid : Prop := Claim7.holds Tryz.pinned (.plain (OpenSpec.upto fnRomanSpec)) fnRomanUptoCard

/-- THE SECOND FORM's CARD OF 'laws.FnMultiples'. -/
def fnMultiplesUptoCard : Claim7 := { stood := { row := fnMultiplesUptoRow, standIns := [], harness := (true, "f58746465e3c94516f16cdc68f997987f6a84ba9edfbbf4745dfb81cf42959bd"), looks := true }, kinds := [], alts := [], laidByText := true, laidKinds := [.data, .data, .widerDeep, .widerDeep, .data, .data, .data, .data, .data, .sentinel, .sentinel, .pinned, .pinned], laidTests := true, laidLooks := .later }
def FnMultiplesUptoCardSaid : Prop := Claim7.holds Tryz.pinned (.plain (OpenSpec.upto fnMultiplesSpec)) fnMultiplesUptoCard

/-- THE SECOND FORM's CARD OF 'laws.FnPermut'. -/
def fnPermutUptoCard : Claim7 := { stood := { row := fnPermutUptoRow, standIns := [], harness := (true, "f58746465e3c94516f16cdc68f997987f6a84ba9edfbbf4745dfb81cf42959bd"), looks := true }, kinds := [], alts := [], laidByText := true, laidKinds := [.data, .data, .widerDeep, .widerDeep, .data, .data, .data, .data, .data, .sentinel, .sentinel, .pinned, .pinned], laidTests := true, laidLooks := .later }
def FnPermutUptoCardSaid : Prop := Claim7.holds Tryz.pinned (.plain (OpenSpec.upto fnPermutSpec)) fnPermutUptoCard

/-- THE SECOND FORM's CARD OF 'laws.FnRankEqual'. -/
def fnRankEqualUptoCard : Claim7 := { stood := { row := fnRankEqualUptoRow, standIns := [], harness := (true, "f58746465e3c94516f16cdc68f997987f6a84ba9edfbbf4745dfb81cf42959bd"), looks := true }, kinds := [], alts := [], laidByText := true, laidKinds := [.data, .data, .widerDeep, .widerDeep, .data, .data, .data, .data, .data, .sentinel, .sentinel, .pinned, .pinned], laidTests := true, laidLooks := .later }
def FnRankEqualUptoCardSaid : Prop := Claim7.holds Tryz.pinned (.plain (OpenSpec.upto fnRankEqualSpec)) fnRankEqualUptoCard
end Rows
end Go.Proofs.YtojicbajcebjjaaGreatDoor
