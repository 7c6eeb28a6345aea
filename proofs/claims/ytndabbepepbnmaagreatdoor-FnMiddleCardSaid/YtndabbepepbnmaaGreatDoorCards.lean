/-
  DERIVED. GIVEN WITH THE SEED: THE CARDS: each row of YtndabbepepbnmaaGreatDoorRows.lean that lists a variable, with what it lists TIED to the program's text (the seventh form; the later family's looks); each row that meets fmt, with fmt's text TOLD by the authors' own Lean function (tested against real Go, not proved from fmt's source: count such statements apart). THE CARD IS WHAT COUNTS. Prove the row's statement (the work); the ties are given (YtndabbepepbnmaaGreatDoorTie.lean); close each card by the builder's one call (the guide's Derived/Test/ToyasCard.lean, 'card_holds'). Laid BY PROGRAM, IN A SANDBOX (cutbox-door.mjs). By AI agents, Wed Nov 11 2026. No macro, syntax, notation, axiom, sorry.
-/
import Derived.Test.YtndabbepepbnmaaGreatDoorRows
import GoSem.ClaimSeven
namespace Go.Proofs.YtndabbepepbnmaaGreatDoor
namespace Rows

/-- THE TIED CARD OF 'laws.FnFactStep'. -/
def fnFactStepCard : Claim7 := { stood := { row := fnFactStepRow, standIns := [], harness := (true, "26a5247d71f93d53fc6ab97830ef5440ec26e0b54e08e6b12a2dc4c841fd3193"), looks := true }, kinds := [], alts := [], laidByText := true, laidKinds := [.data, .data, .widerDeep, .widerDeep, .data, .data, .data, .data, .data, .sentinel, .sentinel, .pinned, .pinned], laidTests := true, laidLooks := .later }
def FnFactStepCardSaid : Prop := Claim7.holds Tryz.pinned (.plain (OpenSpec.ofChange fnFactStepSpec)) fnFactStepCard

/-- THE TIED CARD OF 'laws.FnXorFold'. -/
def fnXorFoldCard : Claim7 := { stood := { row := fnXorFoldRow, standIns := [], harness := (true, "26a5247d71f93d53fc6ab97830ef5440ec26e0b54e08e6b12a2dc4c841fd3193"), looks := true }, kinds := [], alts := [], laidByText := true, laidKinds := [.data, .data, .widerDeep, .widerDeep, .data, .data, .data, .data, .data, .sentinel, .sentinel, .pinned, .pinned], laidTests := true, laidLooks := .later }
def FnXorFoldCardSaid : Prop := Claim7.holds Tryz.pinned (.plain (OpenSpec.ofChange fnXorFoldSpec)) fnXorFoldCard

/-- THE TIED CARD OF 'laws.FnBits'. -/
def fnBitsCard : Claim7 := { stood := { row := fnBitsRow, standIns := [], harness := (true, "26a5247d71f93d53fc6ab97830ef5440ec26e0b54e08e6b12a2dc4c841fd3193"), looks := true }, kinds := [], alts := [], laidByText := true, laidKinds := [.data, .data, .widerDeep, .widerDeep, .data, .data, .data, .data, .data, .sentinel, .sentinel, .pinned, .pinned], laidTests := true, laidLooks := .later }
def FnBitsCardSaid : Prop := Claim7.holds Tryz.pinned (.plain (OpenSpec.ofChange fnBitsSpec)) fnBitsCard

/-- THE TIED CARD OF 'laws.FnModQuotient'. -/
def fnModQuotientCard : Claim7 := { stood := { row := fnModQuotientRow, standIns := [], harness := (true, "26a5247d71f93d53fc6ab97830ef5440ec26e0b54e08e6b12a2dc4c841fd3193"), looks := true }, kinds := [], alts := [], laidByText := true, laidKinds := [.data, .data, .widerDeep, .widerDeep, .data, .data, .data, .data, .data, .sentinel, .sentinel, .pinned, .pinned], laidTests := true, laidLooks := .later }
def FnModQuotientCardSaid : Prop := Claim7.holds Tryz.pinned (.plain (OpenSpec.ofChange fnModQuotientSpec)) fnModQuotientCard

/-- THE TIED CARD OF 'laws.FnSumParts'. -/
def fnSumPartsCard : Claim7 := { stood := { row := fnSumPartsRow, standIns := [], harness := (true, "26a5247d71f93d53fc6ab97830ef5440ec26e0b54e08e6b12a2dc4c841fd3193"), looks := true }, kinds := [], alts := [], laidByText := true, laidKinds := [.data, .data, .widerDeep, .widerDeep, .data, .data, .data, .data, .data, .sentinel, .sentinel, .pinned, .pinned], laidTests := true, laidLooks := .later }
def FnSumPartsCardSaid : Prop := Claim7.holds Tryz.pinned (.plain (OpenSpec.ofChange fnSumPartsSpec)) fnSumPartsCard

/-- THE TIED CARD OF 'laws.FnUnit'. -/
def fnUnitCard : Claim7 := { stood := { row := fnUnitRow, standIns := [], harness := (true, "26a5247d71f93d53fc6ab97830ef5440ec26e0b54e08e6b12a2dc4c841fd3193"), looks := true }, kinds := [], alts := [], laidByText := true, laidKinds := [.data, .data, .widerDeep, .widerDeep, .data, .data, .data, .data, .data, .sentinel, .sentinel, .pinned, .pinned], laidTests := true, laidLooks := .later }
def FnUnitCardSaid : Prop := Claim7.holds Tryz.pinned (.plain (OpenSpec.ofChange fnUnitSpec)) fnUnitCard

/-- THE TIED CARD OF 'laws.FnEvenOdd'. -/
def fnEvenOddCard : Claim7 := { stood := { row := fnEvenOddRow, standIns := [], harness := (true, "26a5247d71f93d53fc6ab97830ef5440ec26e0b54e08e6b12a2dc4c841fd3193"), looks := true }, kinds := [], alts := [], laidByText := true, laidKinds := [.data, .data, .widerDeep, .widerDeep, .data, .data, .data, .data, .data, .sentinel, .sentinel, .pinned, .pinned], laidTests := true, laidLooks := .later }
def FnEvenOddCardSaid : Prop := Claim7.holds Tryz.pinned (.plain (OpenSpec.ofChange fnEvenOddSpec)) fnEvenOddCard

/-- THE TIED CARD OF 'laws.FnLowerTwice'. -/
def fnLowerTwiceCard : Claim7 := { stood := { row := fnLowerTwiceRow, standIns := [], harness := (true, "26a5247d71f93d53fc6ab97830ef5440ec26e0b54e08e6b12a2dc4c841fd3193"), looks := true }, kinds := [], alts := [], laidByText := true, laidKinds := [.data, .data, .data, .data, .data, .pinned, .pinned, .pinned, .pinned], laidTests := true, laidLooks := .later }
def FnLowerTwiceCardSaid : Prop := Claim7.holds Tryz.pinned (.plain (OpenSpec.ofChange fnLowerTwiceSpec)) fnLowerTwiceCard

/-- THE TIED CARD OF 'laws.FnUpperTwice'. -/
def fnUpperTwiceCard : Claim7 := { stood := { row := fnUpperTwiceRow, standIns := [], harness := (true, "26a5247d71f93d53fc6ab97830ef5440ec26e0b54e08e6b12a2dc4c841fd3193"), looks := true }, kinds := [], alts := [], laidByText := true, laidKinds := [.data, .data, .data, .data, .data, .pinned, .pinned, .pinned, .pinned], laidTests := true, laidLooks := .later }
def FnUpperTwiceCardSaid : Prop := Claim7.holds Tryz.pinned (.plain (OpenSpec.ofChange fnUpperTwiceSpec)) fnUpperTwiceCard

/-- THE TIED CARD OF 'laws.FnGcdLcm'. -/
def fnGcdLcmCard : Claim7 := { stood := { row := fnGcdLcmRow, standIns := [], harness := (true, "26a5247d71f93d53fc6ab97830ef5440ec26e0b54e08e6b12a2dc4c841fd3193"), looks := true }, kinds := [], alts := [], laidByText := true, laidKinds := [.data, .data, .widerDeep, .widerDeep, .data, .data, .data, .data, .data, .sentinel, .sentinel, .pinned, .pinned], laidTests := true, laidLooks := .later }
def FnGcdLcmCardSaid : Prop := Claim7.holds Tryz.pinned (.plain (OpenSpec.ofChange fnGcdLcmSpec)) fnGcdLcmCard

/-- THE TIED CARD OF 'laws.FnUpperLower'. -/
def fnUpperLowerCard : Claim7 := { stood := { row := fnUpperLowerRow, standIns := [], harness := (true, "26a5247d71f93d53fc6ab97830ef5440ec26e0b54e08e6b12a2dc4c841fd3193"), looks := true }, kinds := [], alts := [], laidByText := true, laidKinds := [.data, .data, .data, .data, .data, .pinned, .pinned, .pinned, .pinned], laidTests := true, laidLooks := .later }
def FnUpperLowerCardSaid : Prop := Claim7.holds Tryz.pinned (.plain (OpenSpec.ofChange fnUpperLowerSpec)) fnUpperLowerCard

/-- THE TIED CARD OF 'laws.FnMorgan'. -/
def fnMorganCard : Claim7 := { stood := { row := fnMorganRow, standIns := [], harness := (true, "26a5247d71f93d53fc6ab97830ef5440ec26e0b54e08e6b12a2dc4c841fd3193"), looks := true }, kinds := [], alts := [], laidByText := true, laidKinds := [.data, .data, .data, .data, .data, .pinned, .pinned, .pinned, .pinned], laidTests := true, laidLooks := .later }
def FnMorganCardSaid : Prop := Claim7.holds Tryz.pinned (.plain (OpenSpec.ofChange fnMorganSpec)) fnMorganCard

/-- THE TIED CARD OF 'laws.FnMiddle'. -/
def fnMiddleCard : Claim7 := { stood := { row := fnMiddleRow, standIns := [], harness := (true, "26a5247d71f93d53fc6ab97830ef5440ec26e0b54e08e6b12a2dc4c841fd3193"), looks := true }, kinds := [], alts := [], laidByText := true, laidKinds := [.data, .data, .widerDeep, .widerDeep, .data, .data, .data, .data, .data, .sentinel, .sentinel, .pinned, .pinned], laidTests := true, laidLooks := .later }
def FnMiddleCardSaid : Prop := Claim7.holds Tryz.pinned (.plain (OpenSpec.ofChange fnMiddleSpec)) fnMiddleCard

/-- THE TIED CARD OF 'laws.FnCharCode'. -/
def fnCharCodeCard : Claim7 := { stood := { row := fnCharCodeRow, standIns := [], harness := (true, "26a5247d71f93d53fc6ab97830ef5440ec26e0b54e08e6b12a2dc4c841fd3193"), looks := true }, kinds := [], alts := [], laidByText := true, laidKinds := [.data, .data, .widerDeep, .widerDeep, .data, .data, .data, .data, .data, .sentinel, .sentinel, .pinned, .pinned], laidTests := true, laidLooks := .later }
def FnCharCodeCardSaid : Prop := Claim7.holds Tryz.pinned (.plain (OpenSpec.ofChange fnCharCodeSpec)) fnCharCodeCard

/-- THE TIED CARD OF 'laws.FnReptLen'. -/
def fnReptLenCard : Claim7 := { stood := { row := fnReptLenRow, standIns := [], harness := (true, "26a5247d71f93d53fc6ab97830ef5440ec26e0b54e08e6b12a2dc4c841fd3193"), looks := true }, kinds := [], alts := [], laidByText := true, laidKinds := [.data, .data, .widerDeep, .widerDeep, .data, .data, .data, .data, .data, .sentinel, .sentinel, .sentinel, .pinned, .pinned], laidTests := true, laidLooks := .later }
def FnReptLenCardSaid : Prop := Claim7.holds Tryz.pinned (.plain (OpenSpec.ofChange fnReptLenSpec)) fnReptLenCard

/-- THE SECOND FORM's CARD OF 'laws.FnFactStep'. -/
def fnFactStepUptoCard : Claim7 := { stood := { row := fnFactStepUptoRow, standIns := [], harness := (true, "26a5247d71f93d53fc6ab97830ef5440ec26e0b54e08e6b12a2dc4c841fd3193"), looks := true }, kinds := [], alts := [], laidByText := true, laidKinds := [.data, .data, .widerDeep, .widerDeep, .data, .data, .data, .data, .data, .sentinel, .sentinel, .pinned, .pinned], laidTests := true, laidLooks := .later }
def FnFactStepUptoCardSaid : Prop := Claim7.holds Tryz.pinned (.plain (OpenSpec.upto fnFactStepSpec)) fnFactStepUptoCard

/-- THE SECOND FORM's CARD OF 'laws.FnXorFold'. -/
def fnXorFoldUptoCard : Claim7 := { stood := { row := fnXorFoldUptoRow, standIns := [], harness := (true, "26a5247d71f93d53fc6ab97830ef5440ec26e0b54e08e6b12a2dc4c841fd3193"), looks := true }, kinds := [], alts := [], laidByText := true, laidKinds := [.data, .data, .widerDeep, .widerDeep, .data, .data, .data, .data, .data, .sentinel, .sentinel, .pinned, .pinned], laidTests := true, laidLooks := .later }
def FnXorFoldUptoCardSaid : Prop := Claim7.holds Tryz.pinned (.plain (OpenSpec.upto fnXorFoldSpec)) fnXorFoldUptoCard

/-- THE SECOND FORM's CARD OF 'laws.FnBits'. -/
def fnBitsUptoCard : Claim7 := { stood := { row := fnBitsUptoRow, standIns := [], harness := (true, "26a5247d71f93d53fc6ab97830ef5440ec26e0b54e08e6b12a2dc4c841fd3193"), looks := true }, kinds := [], alts := [], laidByText := true, laidKinds := [.data, .data, .widerDeep, .widerDeep, .data, .data, .data, .data, .data, .sentinel, .sentinel, .pinned, .pinned], laidTests := true, laidLooks := .later }
def FnBitsUptoCardSaid : Prop := Claim7.holds Tryz.pinned (.plain (OpenSpec.upto fnBitsSpec)) fnBitsUptoCard

/-- THE SECOND FORM's CARD OF 'laws.FnModQuotient'. -/
def fnModQuotientUptoCard : Claim7 := { stood := { row := fnModQuotientUptoRow, standIns := [], harness := (true, "26a5247d71f93d53fc6ab97830ef5440ec26e0b54e08e6b12a2dc4c841fd3193"), looks := true }, kinds := [], alts := [], laidByText := true, laidKinds := [.data, .data, .widerDeep, .widerDeep, .data, .data, .data, .data, .data, .sentinel, .sentinel, .pinned, .pinned], laidTests := true, laidLooks := .later }
def FnModQuotientUptoCardSaid : Prop := Claim7.holds Tryz.pinned (.plain (OpenSpec.upto fnModQuotientSpec)) fnModQuotientUptoCard

/-- THE SECOND FORM's CARD OF 'laws.FnSumParts'. -/
def fnSumPartsUptoCard : Claim7 := { stood := { row := fnSumPartsUptoRow, standIns := [], harness := (true, "26a5247d71f93d53fc6ab97830ef5440ec26e0b54e08e6b12a2dc4c841fd3193"), looks := true }, kinds := [], alts := [], laidByText := true, laidKinds := [.data, .data, .widerDeep, .widerDeep, .data, .data, .data, .data, .data, .sentinel, .sentinel, .pinned, .pinned], laidTests := true, laidLooks := .later }
def FnSumPartsUptoCardSaid : Prop := Claim7.holds Tryz.pinned (.plain (OpenSpec.upto fnSumPartsSpec)) fnSumPartsUptoCard

/-- THE SECOND FORM's CARD OF 'laws.FnUnit'. -/
def fnUnitUptoCard : Claim7 := { stood := { row := fnUnitUptoRow, standIns := [], harness := (true, "26a5247d71f93d53fc6ab97830ef5440ec26e0b54e08e6b12a2dc4c841fd3193"), looks := true }, kinds := [], alts := [], laidByText := true, laidKinds := [.data, .data, .widerDeep, .widerDeep, .data, .data, .data, .data, .data, .sentinel, .sentinel, .pinned, .pinned], laidTests := true, laidLooks := .later }
def FnUnitUptoCardSaid : Prop := Claim7.holds Tryz.pinned (.plain (OpenSpec.upto fnUnitSpec)) fnUnitUptoCard

/-- THE SECOND FORM's CARD OF 'laws.FnEvenOdd'. -/
def fnEvenOddUptoCard : Claim7 := { stood := { row := fnEvenOddUptoRow, standIns := [], harness := (true, "26a5247d71f93d53fc6ab97830ef5440ec26e0b54e08e6b12a2dc4c841fd3193"), looks := true }, kinds := [], alts := [], laidByText := true, laidKinds := [.data, .data, .widerDeep, .widerDeep, .data, .data, .data, .data, .data, .sentinel, .sentinel, .pinned, .pinned], laidTests := true, laidLooks := .later }
def FnEvenOddUptoCardSaid : Prop := Claim7.holds Tryz.pinned (.plain (OpenSpec.upto fnEvenOddSpec)) fnEvenOddUptoCard

/-- THE SECOND FORM's CARD OF 'laws.FnLowerTwice'. -/
def fnLowerTwiceUptoCard : Claim7 := { stood := { row := fnLowerTwiceUptoRow, standIns := [], harness := (true, "26a5247d71f93d53fc6ab97830ef5440ec26e0b54e08e6b12a2dc4c841fd3193"), looks := true }, kinds := [], alts := [], laidByText := true, laidKinds := [.data, .data, .data, .data, .data, .pinned, .pinned, .pinned, .pinned], laidTests := true, laidLooks := .later }
def FnLowerTwiceUptoCardSaid : Prop := Claim7.holds Tryz.pinned (.plain (OpenSpec.upto fnLowerTwiceSpec)) fnLowerTwiceUptoCard

/-- THE SECOND FORM's CARD OF 'laws.FnUpperTwice'. -/
def fnUpperTwiceUptoCard : Claim7 := { stood := { row := fnUpperTwiceUptoRow, standIns := [], harness := (true, "26a5247d71f93d53fc6ab97830ef5440ec26e0b54e08e6b12a2dc4c841fd3193"), looks := true }, kinds := [], alts := [], laidByText := true, laidKinds := [.data, .data, .data, .data, .data, .pinned, .pinned, .pinned, .pinned], laidTests := true, laidLooks := .later }
def FnUpperTwiceUptoCardSaid : Prop := Claim7.holds Tryz.pinned (.plain (OpenSpec.upto fnUpperTwiceSpec)) fnUpperTwiceUptoCard

/-- THE SECOND FORM's CARD OF 'laws.FnGcdLcm'. -/
def fnGcdLcmUptoCard : Claim7 := { stood := { row := fnGcdLcmUptoRow, standIns := [], harness := (true, "26a5247d71f93d53fc6ab97830ef5440ec26e0b54e08e6b12a2dc4c841fd3193"), looks := true }, kinds := [], alts := [], laidByText := true, laidKinds := [.data, .data, .widerDeep, .widerDeep, .data, .data, .data, .data, .data, .sentinel, .sentinel, .pinned, .pinned], laidTests := true, laidLooks := .later }
def FnGcdLcmUptoCardSaid : Prop := Claim7.holds Tryz.pinned (.plain (OpenSpec.upto fnGcdLcmSpec)) fnGcdLcmUptoCard

/-- THE SECOND FORM's CARD OF 'laws.FnUpperLower'. -/
def fnUpperLowerUptoCard : Claim7 := { stood := { row := fnUpperLowerUptoRow, standIns := [], harness := (true, "26a5247d71f93d53fc6ab97830ef5440ec26e0b54e08e6b12a2dc4c841fd3193"), looks := true }, kinds := [], alts := [], laidByText := true, laidKinds := [.data, .data, .data, .data, .data, .pinned, .pinned, .pinned, .pinned], laidTests := true, laidLooks := .later }
def FnUpperLowerUptoCardSaid : Prop := Claim7.holds Tryz.pinned (.plain (OpenSpec.upto fnUpperLowerSpec)) fnUpperLowerUptoCard

/-- THE SECOND FORM's CARD OF 'laws.FnMorgan'. -/
def fnMorganUptoCard : Claim7 := { stood := { row := fnMorganUptoRow, standIns := [], harness := (true, "26a5247d71f93d53fc6ab97830ef5440ec26e0b54e08e6b12a2dc4c841fd3193"), looks := true }, kinds := [], alts := [], laidByText := true, laidKinds := [.data, .data, .data, .data, .data, .pinned, .pinned, .pinned, .pinned], laidTests := true, laidLooks := .later }
def FnMorganUptoCardSaid : Prop := Claim7.holds Tryz.pinned (.plain (OpenSpec.upto fnMorganSpec)) fnMorganUptoCard

/-- THE SECOND FORM's CARD OF 'laws.FnMiddle'. -/
def fnMiddleUptoCard : Claim7 := { stood := { row := fnMiddleUptoRow, standIns := [], harness := (true, "26a5247d71f93d53fc6ab97830ef5440ec26e0b54e08e6b12a2dc4c841fd3193"), looks := true }, kinds := [], alts := [], laidByText := true, laidKinds := [.data, .data, .widerDeep, .widerDeep, .data, .data, .data, .data, .data, .sentinel, .sentinel, .pinned, .pinned], laidTests := true, laidLooks := .later }
def FnMiddleUptoCardSaid : Prop := Claim7.holds Tryz.pinned (.plain (OpenSpec.upto fnMiddleSpec)) fnMiddleUptoCard

/-- THE SECOND FORM's CARD OF 'laws.FnCharCode'. -/
def fnCharCodeUptoCard : Claim7 := { stood := { row := fnCharCodeUptoRow, standIns := [], harness := (true, "26a5247d71f93d53fc6ab97830ef5440ec26e0b54e08e6b12a2dc4c841fd3193"), looks := true }, kinds := [], alts := [], laidByText := true, laidKinds := [.data, .data, .widerDeep, .widerDeep, .data, .data, .data, .data, .data, .sentinel, .sentinel, .pinned, .pinned], laidTests := true, laidLooks := .later }
def FnCharCodeUptoCardSaid : Prop := Claim7.holds Tryz.pinned (.plain (OpenSpec.upto fnCharCodeSpec)) fnCharCodeUptoCard

/-- THE SECOND FORM's CARD OF 'laws.FnReptLen'. -/
def fnReptLenUptoCard : Claim7 := { stood := { row := fnReptLenUptoRow, standIns := [], harness := (true, "26a5247d71f93d53fc6ab97830ef5440ec26e0b54e08e6b12a2dc4c841fd3193"), looks := true }, kinds := [], alts := [], laidByText := true, laidKinds := [.data, .data, .widerDeep, .widerDeep, .data, .data, .data, .data, .data, .sentinel, .sentinel, .sentinel, .pinned, .pinned], laidTests := true, laidLooks := .later }
def FnReptLenUptoCardSaid : Prop := Claim7.holds Tryz.pinned (.plain (OpenSpec.upto fnReptLenSpec)) fnReptLenUptoCard
end Rows
end Go.Proofs.YtndabbepepbnmaaGreatDoor
