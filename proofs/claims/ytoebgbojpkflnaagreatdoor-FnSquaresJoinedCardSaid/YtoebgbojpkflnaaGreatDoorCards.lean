/-
  DERIVED. GIVEN WITH THE SEED: THE CARDS: each row of YtoebgbojpkflnaaGreatDoorRows.lean that lists a variable, with what it lists TIED to the program's text (the seventh form; the later family's looks); each row that meets fmt, with fmt's text TOLD by the authors' own Lean function (tested against real Go, not proved from fmt's source: count such statements apart). THE CARD IS WHAT COUNTS. Prove the row's statement (the work); the ties are given (YtoebgbojpkflnaaGreatDoorTie.lean); close each card by the builder's one call (the guide's Derived/Test/ToyasCard.lean, 'card_holds'). Laid BY PROGRAM, IN A SANDBOX (cutbox-door.mjs). By AI agents, Wed Nov 11 2026. No macro, syntax, notation, axiom, sorry.
-/
import Derived.Test.YtoebgbojpkflnaaGreatDoorRows
import GoSem.ClaimSeven
namespace Go.Proofs.YtoebgbojpkflnaaGreatDoor
namespace Rows

/-- THE TIED CARD OF 'laws.FnSquaresJoined'. -/
def fnSquaresJoinedCard : Claim7 := { stood := { row := fnSquaresJoinedRow, standIns := [], harness := (true, "c1cd474a6ddb3716e839442b4e9b1559bdf1af6772c833d1b981635445a2ac27"), looks := true }, kinds := [], alts := [], laidByText := true, laidKinds := [.data, .data, .widerDeep, .widerDeep, .data, .data, .data, .data, .data, .sentinel, .sentinel, .pinned, .pinned], laidTests := true, laidLooks := .later }
def FnSquaresJoinedCardSaid : Prop := Claim7.holds Tryz.pinned (.plain (OpenSpec.ofChange fnSquaresJoinedSpec)) fnSquaresJoinedCard

/-- THE TIED CARD OF 'laws.FnWithTruths'. -/
def fnWithTruthsCard : Claim7 := { stood := { row := fnWithTruthsRow, standIns := [], harness := (true, "c1cd474a6ddb3716e839442b4e9b1559bdf1af6772c833d1b981635445a2ac27"), looks := true }, kinds := [], alts := [], laidByText := true, laidKinds := [.data, .data, .widerDeep, .widerDeep, .data, .data, .data, .data, .data, .sentinel, .sentinel, .pinned, .pinned], laidTests := true, laidLooks := .later }
def FnWithTruthsCardSaid : Prop := Claim7.holds Tryz.pinned (.plain (OpenSpec.ofChange fnWithTruthsSpec)) fnWithTruthsCard

/-- THE TIED CARD OF 'laws.FnDoubleFactorial'. -/
def fnDoubleFactorialCard : Claim7 := { stood := { row := fnDoubleFactorialRow, standIns := [], harness := (true, "c1cd474a6ddb3716e839442b4e9b1559bdf1af6772c833d1b981635445a2ac27"), looks := true }, kinds := [], alts := [], laidByText := true, laidKinds := [.data, .data, .widerDeep, .widerDeep, .data, .data, .data, .data, .data, .data, .sentinel, .sentinel, .pinned, .pinned, .pinned, .pinned], laidTests := true, laidLooks := .later }
def FnDoubleFactorialCardSaid : Prop := Claim7.holds Tryz.pinned (.plain (OpenSpec.ofChange fnDoubleFactorialSpec)) fnDoubleFactorialCard

/-- THE TIED CARD OF 'laws.FnFind'. -/
def fnFindCard : Claim7 := { stood := { row := fnFindRow, standIns := [], harness := (true, "c1cd474a6ddb3716e839442b4e9b1559bdf1af6772c833d1b981635445a2ac27"), looks := true }, kinds := [], alts := [], laidByText := true, laidKinds := [.data, .data, .widerDeep, .widerDeep, .data, .data, .data, .data, .data, .data, .sentinel, .sentinel, .pinned, .pinned, .pinned, .pinned], laidTests := true, laidLooks := .later }
def FnFindCardSaid : Prop := Claim7.holds Tryz.pinned (.plain (OpenSpec.ofChange fnFindSpec)) fnFindCard

/-- THE TIED CARD OF 'laws.FnBytesReplaced'. -/
def fnBytesReplacedCard : Claim7 := { stood := { row := fnBytesReplacedRow, standIns := [], harness := (true, "c1cd474a6ddb3716e839442b4e9b1559bdf1af6772c833d1b981635445a2ac27"), looks := true }, kinds := [], alts := [], laidByText := true, laidKinds := [.data, .data, .widerDeep, .widerDeep, .data, .data, .data, .data, .data, .data, .sentinel, .sentinel, .pinned, .pinned, .pinned, .pinned], laidTests := true, laidLooks := .later }
def FnBytesReplacedCardSaid : Prop := Claim7.holds Tryz.pinned (.plain (OpenSpec.ofChange fnBytesReplacedSpec)) fnBytesReplacedCard

/-- THE TIED CARD OF 'laws.FnArabic'. -/
def fnArabicCard : Claim7 := { stood := { row := fnArabicRow, standIns := [], harness := (true, "c1cd474a6ddb3716e839442b4e9b1559bdf1af6772c833d1b981635445a2ac27"), looks := true }, kinds := [], alts := [], laidByText := true, laidKinds := [.data, .data, .widerDeep, .widerDeep, .data, .data, .data, .data, .data, .data, .sentinel, .sentinel, .sentinel, .widerDeep, .pinned, .pinned, .pinned, .pinned], laidTests := true, laidLooks := .later }
def FnArabicCardSaid : Prop := Claim7.holds Tryz.pinned (.plain (OpenSpec.ofChange fnArabicSpec)) fnArabicCard

/-- THE TIED CARD OF 'laws.FnFindLower'. -/
def fnFindLowerCard : Claim7 := { stood := { row := fnFindLowerRow, standIns := [], harness := (true, "c1cd474a6ddb3716e839442b4e9b1559bdf1af6772c833d1b981635445a2ac27"), looks := true }, kinds := [], alts := [], laidByText := true, laidKinds := [.data, .data, .widerDeep, .widerDeep, .data, .data, .data, .data, .data, .data, .sentinel, .sentinel, .pinned, .pinned, .pinned, .pinned], laidTests := true, laidLooks := .later }
def FnFindLowerCardSaid : Prop := Claim7.holds Tryz.pinned (.plain (OpenSpec.ofChange fnFindLowerSpec)) fnFindLowerCard

/-- THE SECOND FORM's CARD OF 'laws.FnSquaresJoined'. -/
def fnSquaresJoinedUptoCard : Claim7 := { stood := { row := fnSquaresJoinedUptoRow, standIns := [], harness := (true, "c1cd474a6ddb3716e839442b4e9b1559bdf1af6772c833d1b981635445a2ac27"), looks := true }, kinds := [], alts := [], laidByText := true, laidKinds := [.data, .data, .widerDeep, .widerDeep, .data, .data, .data, .data, .data, .sentinel, .sentinel, .pinned, .pinned], laidTests := true, laidLooks := .later }
def FnSquaresJoinedUptoCardSaid : Prop := Claim7.holds Tryz.pinned (.plain (OpenSpec.upto fnSquaresJoinedSpec)) fnSquaresJoinedUptoCard

/-- THE SECOND FORM's CARD OF 'laws.FnWithTruths'. -/
def fnWithTruthsUptoCard : Claim7 := { stood := { row := fnWithTruthsUptoRow, standIns := [], harness := (true, "c1cd474a6ddb3716e839442b4e9b1559bdf1af6772c833d1b981635445a2ac27"), looks := true }, kinds := [], alts := [], laidByText := true, laidKinds := [.data, .data, .widerDeep, .widerDeep, .data, .data, .data, .data, .data, .sentinel, .sentinel, .pinned, .pinned], laidTests := true, laidLooks := .later }
def FnWithTruthsUptoCardSaid : Prop := Claim7.holds Tryz.pinned (.plain (OpenSpec.upto fnWithTruthsSpec)) fnWithTruthsUptoCard

/-- THE SECOND FORM's CARD OF 'laws.FnDoubleFactorial'. -/
def fnDoubleFactorialUptoCard : Claim7 := { stood := { row := fnDoubleFactorialUptoRow, standIns := [], harness := (true, "c1cd474a6ddb3716e839442b4e9b1559bdf1af6772c833d1b981635445a2ac27"), looks := true }, kinds := [], alts := [], laidByText := true, laidKinds := [.data, .data, .widerDeep, .widerDeep, .data, .data, .data, .data, .data, .data, .sentinel, .sentinel, .pinned, .pinned, .pinned, .pinned], laidTests := true, laidLooks := .later }
def FnDoubleFactorialUptoCardSaid : Prop := Claim7.holds Tryz.pinned (.plain (OpenSpec.upto fnDoubleFactorialSpec)) fnDoubleFactorialUptoCard

/-- THE SECOND FORM's CARD OF 'laws.FnFind'. -/
def fnFindUptoCard : Claim7 := { stood := { row := fnFindUptoRow, standIns := [], harness := (true, "c1cd474a6ddb3716e839442b4e9b1559bdf1af6772c833d1b981635445a2ac27"), looks := true }, kinds := [], alts := [], laidByText := true, laidKinds := [.data, .data, .widerDeep, .widerDeep, .data, .data, .data, .data, .data, .data, .sentinel, .sentinel, .pinned, .pinned, .pinned, .pinned], laidTests := true, laidLooks := .later }
def FnFindUptoCardSaid : Prop := Claim7.holds Tryz.pinned (.plain (OpenSpec.upto fnFindSpec)) fnFindUptoCard

/-- THE SECOND FORM's CARD OF 'laws.FnBytesReplaced'. -/
def fnBytesReplacedUptoCard : Claim7 := { stood := { row := fnBytesReplacedUptoRow, standIns := [], harness := (true, "c1cd474a6ddb3716e839442b4e9b1559bdf1af6772c833d1b981635445a2ac27"), looks := true }, kinds := [], alts := [], laidByText := true, laidKinds := [.data, .data, .widerDeep, .widerDeep, .data, .data, .data, .data, .data, .data, .sentinel, .sentinel, .pinned, .pinned, .pinned, .pinned], laidTests := true, laidLooks := .later }
def FnBytesReplacedUptoCardSaid : Prop := Claim7.holds Tryz.pinned (.plain (OpenSpec.upto fnBytesReplacedSpec)) fnBytesReplacedUptoCard

/-- THE SECOND FORM's CARD OF 'laws.FnArabic'. -/
def fnArabicUptoCard : Claim7 := { stood := { row := fnArabicUptoRow, standIns := [], harness := (true, "c1cd474a6ddb3716e839442b4e9b1559bdf1af6772c833d1b981635445a2ac27"), looks := true }, kinds := [], alts := [], laidByText := true, laidKinds := [.data, .data, .widerDeep, .widerDeep, .data, .data, .data, .data, .data, .data, .sentinel, .sentinel, .sentinel, .widerDeep, .pinned, .pinned, .pinned, .pinned], laidTests := true, laidLooks := .later }
def FnArabicUptoCardSaid : Prop := Claim7.holds Tryz.pinned (.plain (OpenSpec.upto fnArabicSpec)) fnArabicUptoCard

/-- THE SECOND FORM's CARD OF 'laws.FnFindLower'. -/
def fnFindLowerUptoCard : Claim7 := { stood := { row := fnFindLowerUptoRow, standIns := [], harness := (true, "c1cd474a6ddb3716e839442b4e9b1559bdf1af6772c833d1b981635445a2ac27"), looks := true }, kinds := [], alts := [], laidByText := true, laidKinds := [.data, .data, .widerDeep, .widerDeep, .data, .data, .data, .data, .data, .data, .sentinel, .sentinel, .pinned, .pinned, .pinned, .pinned], laidTests := true, laidLooks := .later }
def FnFindLowerUptoCardSaid : Prop := Claim7.holds Tryz.pinned (.plain (OpenSpec.upto fnFindLowerSpec)) fnFindLowerUptoCard
end Rows
end Go.Proofs.YtoebgbojpkflnaaGreatDoor
