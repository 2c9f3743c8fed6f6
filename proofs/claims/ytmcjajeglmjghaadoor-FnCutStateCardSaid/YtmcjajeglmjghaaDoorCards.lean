/-
  DERIVED. GIVEN WITH THE SEED: THE CARDS: each row of YtmcjajeglmjghaaDoorRows.lean that lists a variable, with what it lists TIED to the program's text (the seventh form; the later family's looks); each row that meets fmt, with fmt's text TOLD by the authors' own Lean function (tested against real Go, not proved from fmt's source: count such statements apart). THE CARD IS WHAT COUNTS. Prove the row's statement (the work); the ties are given (YtmcjajeglmjghaaDoorTie.lean); close each card by the builder's one call (the guide's Derived/Test/ToyasCard.lean, 'card_holds'). Laid BY PROGRAM, IN A SANDBOX (cutbox-door.mjs). By AI agents, Wed Nov 11 2026. No macro, syntax, notation, axiom, sorry.
-/
import Derived.Test.YtmcjajeglmjghaaDoorRows
import GoSem.ClaimSeven
namespace Go.Proofs.YtmcjajeglmjghaaDoor
namespace Rows

/-- THE TIED CARD OF 'laws.FnSizes'. -/
def fnSizesCard : Claim7 := { stood := { row := fnSizesRow, standIns := [], harness := (true, "1bb5065babd3ff27e993fab0adc34c784715a9ba2671217c9486ee42399edc77"), looks := false }, kinds := [], alts := [], laidByText := true, laidKinds := [.data], laidTests := true, laidLooks := .later }
def FnSizesCardSaid : Prop := Claim7.holds Tryd.pinned (.plain (OpenSpec.ofChange fnSizesSpec)) fnSizesCard

/-- THE TIED CARD OF 'laws.FnForged'. -/
def fnForgedCard : Claim7 := { stood := { row := fnForgedRow, standIns := [], harness := (true, "1bb5065babd3ff27e993fab0adc34c784715a9ba2671217c9486ee42399edc77"), looks := false }, kinds := [], alts := [], laidByText := true, laidKinds := [.data], laidTests := true, laidLooks := .later }
def FnForgedCardSaid : Prop := Claim7.holds Tryd.pinned (.plain (OpenSpec.ofChange fnForgedSpec)) fnForgedCard

/-- THE TIED CARD OF 'laws.FnLane'. -/
def fnLaneCard : Claim7 := { stood := { row := fnLaneRow, standIns := [], harness := (true, "1bb5065babd3ff27e993fab0adc34c784715a9ba2671217c9486ee42399edc77"), looks := false }, kinds := [], alts := [], laidByText := true, laidKinds := [.data], laidTests := true, laidLooks := .later }
def FnLaneCardSaid : Prop := Claim7.holds Tryd.pinned (.plain (OpenSpec.ofChange fnLaneSpec)) fnLaneCard

/-- THE TIED CARD OF 'laws.FnSum'. -/
def fnSumCard : Claim7 := { stood := { row := fnSumRow, standIns := [], harness := (true, "1bb5065babd3ff27e993fab0adc34c784715a9ba2671217c9486ee42399edc77"), looks := false }, kinds := [], alts := [], laidByText := true, laidKinds := [.data], laidTests := true, laidLooks := .later }
def FnSumCardSaid : Prop := Claim7.holds Tryd.pinned (.plain (OpenSpec.ofChange fnSumSpec)) fnSumCard

/-- THE TIED CARD OF 'laws.FnAgain'. -/
def fnAgainCard : Claim7 := { stood := { row := fnAgainRow, standIns := [], harness := (true, "1bb5065babd3ff27e993fab0adc34c784715a9ba2671217c9486ee42399edc77"), looks := false }, kinds := [], alts := [], laidByText := true, laidKinds := [.data], laidTests := true, laidLooks := .later }
def FnAgainCardSaid : Prop := Claim7.holds Tryd.pinned (.plain (OpenSpec.ofChange fnAgainSpec)) fnAgainCard

/-- THE TIED CARD OF 'laws.FnNothing'. -/
def fnNothingCard : Claim7 := { stood := { row := fnNothingRow, standIns := [], harness := (true, "1bb5065babd3ff27e993fab0adc34c784715a9ba2671217c9486ee42399edc77"), looks := false }, kinds := [], alts := [], laidByText := true, laidKinds := [.data], laidTests := true, laidLooks := .later }
def FnNothingCardSaid : Prop := Claim7.holds Tryd.pinned (.plain (OpenSpec.ofChange fnNothingSpec)) fnNothingCard

/-- THE TIED CARD OF 'laws.FnWhole'. -/
def fnWholeCard : Claim7 := { stood := { row := fnWholeRow, standIns := [], harness := (true, "1bb5065babd3ff27e993fab0adc34c784715a9ba2671217c9486ee42399edc77"), looks := false }, kinds := [], alts := [], laidByText := true, laidKinds := [.data], laidTests := true, laidLooks := .later }
def FnWholeCardSaid : Prop := Claim7.holds Tryd.pinned (.plain (OpenSpec.ofChange fnWholeSpec)) fnWholeCard

/-- THE TIED CARD OF 'laws.FnPieces'. -/
def fnPiecesCard : Claim7 := { stood := { row := fnPiecesRow, standIns := [], harness := (true, "1bb5065babd3ff27e993fab0adc34c784715a9ba2671217c9486ee42399edc77"), looks := false }, kinds := [], alts := [], laidByText := true, laidKinds := [.data], laidTests := true, laidLooks := .later }
def FnPiecesCardSaid : Prop := Claim7.holds Tryd.pinned (.plain (OpenSpec.ofChange fnPiecesSpec)) fnPiecesCard

/-- THE TIED CARD OF 'laws.FnWrites'. -/
def fnWritesCard : Claim7 := { stood := { row := fnWritesRow, standIns := [], harness := (true, "1bb5065babd3ff27e993fab0adc34c784715a9ba2671217c9486ee42399edc77"), looks := false }, kinds := [], alts := [], laidByText := true, laidKinds := [.data], laidTests := true, laidLooks := .later }
def FnWritesCardSaid : Prop := Claim7.holds Tryd.pinned (.plain (OpenSpec.ofChange fnWritesSpec)) fnWritesCard

/-- THE TIED CARD OF 'laws.FnTurns'. -/
def fnTurnsCard : Claim7 := { stood := { row := fnTurnsRow, standIns := [], harness := (true, "1bb5065babd3ff27e993fab0adc34c784715a9ba2671217c9486ee42399edc77"), looks := false }, kinds := [], alts := [], laidByText := true, laidKinds := [.data], laidTests := true, laidLooks := .later }
def FnTurnsCardSaid : Prop := Claim7.holds Tryd.pinned (.plain (OpenSpec.ofChange fnTurnsSpec)) fnTurnsCard

/-- THE TIED CARD OF 'laws.FnAppended'. -/
def fnAppendedCard : Claim7 := { stood := { row := fnAppendedRow, standIns := [], harness := (true, "1bb5065babd3ff27e993fab0adc34c784715a9ba2671217c9486ee42399edc77"), looks := false }, kinds := [], alts := [], laidByText := true, laidKinds := [.data], laidTests := true, laidLooks := .later }
def FnAppendedCardSaid : Prop := Claim7.holds Tryd.pinned (.plain (OpenSpec.ofChange fnAppendedSpec)) fnAppendedCard

/-- THE TIED CARD OF 'laws.FnTold'. -/
def fnToldCard : Claim7 := { stood := { row := fnToldRow, standIns := [], harness := (true, "1bb5065babd3ff27e993fab0adc34c784715a9ba2671217c9486ee42399edc77"), looks := false }, kinds := [], alts := [], laidByText := true, laidKinds := [.data], laidTests := true, laidLooks := .later }
def FnToldCardSaid : Prop := Claim7.holds Tryd.pinned (.plain (OpenSpec.ofChange fnToldSpec)) fnToldCard

/-- THE TIED CARD OF 'laws.FnSplit'. -/
def fnSplitCard : Claim7 := { stood := { row := fnSplitRow, standIns := [], harness := (true, "1bb5065babd3ff27e993fab0adc34c784715a9ba2671217c9486ee42399edc77"), looks := false }, kinds := [], alts := [], laidByText := true, laidKinds := [.data], laidTests := true, laidLooks := .later }
def FnSplitCardSaid : Prop := Claim7.holds Tryd.pinned (.plain (OpenSpec.ofChange fnSplitSpec)) fnSplitCard

/-- THE TIED CARD OF 'laws.FnTimes'. -/
def fnTimesCard : Claim7 := { stood := { row := fnTimesRow, standIns := [], harness := (true, "1bb5065babd3ff27e993fab0adc34c784715a9ba2671217c9486ee42399edc77"), looks := false }, kinds := [], alts := [], laidByText := true, laidKinds := [.data], laidTests := true, laidLooks := .later }
def FnTimesCardSaid : Prop := Claim7.holds Tryd.pinned (.plain (OpenSpec.ofChange fnTimesSpec)) fnTimesCard

/-- THE TIED CARD OF 'laws.FnCutState'. -/
def fnCutStateCard : Claim7 := { stood := { row := fnCutStateRow, standIns := [], harness := (true, "1bb5065babd3ff27e993fab0adc34c784715a9ba2671217c9486ee42399edc77"), looks := false }, kinds := [], alts := [], laidByText := true, laidKinds := [.data], laidTests := true, laidLooks := .later }
def FnCutStateCardSaid : Prop := Claim7.holds Tryd.pinned (.plain (OpenSpec.ofChange fnCutStateSpec)) fnCutStateCard

/-- THE TIED CARD OF 'laws.FnResumed'. -/
def fnResumedCard : Claim7 := { stood := { row := fnResumedRow, standIns := [], harness := (true, "1bb5065babd3ff27e993fab0adc34c784715a9ba2671217c9486ee42399edc77"), looks := false }, kinds := [], alts := [], laidByText := true, laidKinds := [.data], laidTests := true, laidLooks := .later }
def FnResumedCardSaid : Prop := Claim7.holds Tryd.pinned (.plain (OpenSpec.ofChange fnResumedSpec)) fnResumedCard

/-- THE TIED CARD OF 'laws.FnRoads'. -/
def fnRoadsCard : Claim7 := { stood := { row := fnRoadsRow, standIns := [], harness := (true, "1bb5065babd3ff27e993fab0adc34c784715a9ba2671217c9486ee42399edc77"), looks := false }, kinds := [], alts := [], laidByText := true, laidKinds := [.data], laidTests := true, laidLooks := .later }
def FnRoadsCardSaid : Prop := Claim7.holds Tryd.pinned (.plain (OpenSpec.ofChange fnRoadsSpec)) fnRoadsCard

/-- THE TIED CARD OF 'laws.FnKept'. -/
def fnKeptCard : Claim7 := { stood := { row := fnKeptRow, standIns := [], harness := (true, "1bb5065babd3ff27e993fab0adc34c784715a9ba2671217c9486ee42399edc77"), looks := false }, kinds := [], alts := [], laidByText := true, laidKinds := [.data], laidTests := true, laidLooks := .later }
def FnKeptCardSaid : Prop := Claim7.holds Tryd.pinned (.plain (OpenSpec.ofChange fnKeptSpec)) fnKeptCard

/-- THE SECOND FORM's CARD OF 'laws.FnSizes'. -/
def fnSizesUptoCard : Claim7 := { stood := { row := fnSizesUptoRow, standIns := [], harness := (true, "1bb5065babd3ff27e993fab0adc34c784715a9ba2671217c9486ee42399edc77"), looks := false }, kinds := [], alts := [], laidByText := true, laidKinds := [.data], laidTests := true, laidLooks := .later }
def FnSizesUptoCardSaid : Prop := Claim7.holds Tryd.pinned (.plain (OpenSpec.upto fnSizesSpec)) fnSizesUptoCard

/-- THE SECOND FORM's CARD OF 'laws.FnForged'. -/
def fnForgedUptoCard : Claim7 := { stood := { row := fnForgedUptoRow, standIns := [], harness := (true, "1bb5065babd3ff27e993fab0adc34c784715a9ba2671217c9486ee42399edc77"), looks := false }, kinds := [], alts := [], laidByText := true, laidKinds := [.data], laidTests := true, laidLooks := .later }
def FnForgedUptoCardSaid : Prop := Claim7.holds Tryd.pinned (.plain (OpenSpec.upto fnForgedSpec)) fnForgedUptoCard

/-- THE SECOND FORM's CARD OF 'laws.FnLane'. -/
def fnLaneUptoCard : Claim7 := { stood := { row := fnLaneUptoRow, standIns := [], harness := (true, "1bb5065babd3ff27e993fab0adc34c784715a9ba2671217c9486ee42399edc77"), looks := false }, kinds := [], alts := [], laidByText := true, laidKinds := [.data], laidTests := true, laidLooks := .later }
def FnLaneUptoCardSaid : Prop := Claim7.holds Tryd.pinned (.plain (OpenSpec.upto fnLaneSpec)) fnLaneUptoCard

/-- THE SECOND FORM's CARD OF 'laws.FnSum'. -/
def fnSumUptoCard : Claim7 := { stood := { row := fnSumUptoRow, standIns := [], harness := (true, "1bb5065babd3ff27e993fab0adc34c784715a9ba2671217c9486ee42399edc77"), looks := false }, kinds := [], alts := [], laidByText := true, laidKinds := [.data], laidTests := true, laidLooks := .later }
def FnSumUptoCardSaid : Prop := Claim7.holds Tryd.pinned (.plain (OpenSpec.upto fnSumSpec)) fnSumUptoCard

/-- THE SECOND FORM's CARD OF 'laws.FnAgain'. -/
def fnAgainUptoCard : Claim7 := { stood := { row := fnAgainUptoRow, standIns := [], harness := (true, "1bb5065babd3ff27e993fab0adc34c784715a9ba2671217c9486ee42399edc77"), looks := false }, kinds := [], alts := [], laidByText := true, laidKinds := [.data], laidTests := true, laidLooks := .later }
def FnAgainUptoCardSaid : Prop := Claim7.holds Tryd.pinned (.plain (OpenSpec.upto fnAgainSpec)) fnAgainUptoCard

/-- THE SECOND FORM's CARD OF 'laws.FnNothing'. -/
def fnNothingUptoCard : Claim7 := { stood := { row := fnNothingUptoRow, standIns := [], harness := (true, "1bb5065babd3ff27e993fab0adc34c784715a9ba2671217c9486ee42399edc77"), looks := false }, kinds := [], alts := [], laidByText := true, laidKinds := [.data], laidTests := true, laidLooks := .later }
def FnNothingUptoCardSaid : Prop := Claim7.holds Tryd.pinned (.plain (OpenSpec.upto fnNothingSpec)) fnNothingUptoCard

/-- THE SECOND FORM's CARD OF 'laws.FnWhole'. -/
def fnWholeUptoCard : Claim7 := { stood := { row := fnWholeUptoRow, standIns := [], harness := (true, "1bb5065babd3ff27e993fab0adc34c784715a9ba2671217c9486ee42399edc77"), looks := false }, kinds := [], alts := [], laidByText := true, laidKinds := [.data], laidTests := true, laidLooks := .later }
def FnWholeUptoCardSaid : Prop := Claim7.holds Tryd.pinned (.plain (OpenSpec.upto fnWholeSpec)) fnWholeUptoCard

/-- THE SECOND FORM's CARD OF 'laws.FnPieces'. -/
def fnPiecesUptoCard : Claim7 := { stood := { row := fnPiecesUptoRow, standIns := [], harness := (true, "1bb5065babd3ff27e993fab0adc34c784715a9ba2671217c9486ee42399edc77"), looks := false }, kinds := [], alts := [], laidByText := true, laidKinds := [.data], laidTests := true, laidLooks := .later }
def FnPiecesUptoCardSaid : Prop := Claim7.holds Tryd.pinned (.plain (OpenSpec.upto fnPiecesSpec)) fnPiecesUptoCard

/-- THE SECOND FORM's CARD OF 'laws.FnWrites'. -/
def fnWritesUptoCard : Claim7 := { stood := { row := fnWritesUptoRow, standIns := [], harness := (true, "1bb5065babd3ff27e993fab0adc34c784715a9ba2671217c9486ee42399edc77"), looks := false }, kinds := [], alts := [], laidByText := true, laidKinds := [.data], laidTests := true, laidLooks := .later }
def FnWritesUptoCardSaid : Prop := Claim7.holds Tryd.pinned (.plain (OpenSpec.upto fnWritesSpec)) fnWritesUptoCard

/-- THE SECOND FORM's CARD OF 'laws.FnTurns'. -/
def fnTurnsUptoCard : Claim7 := { stood := { row := fnTurnsUptoRow, standIns := [], harness := (true, "1bb5065babd3ff27e993fab0adc34c784715a9ba2671217c9486ee42399edc77"), looks := false }, kinds := [], alts := [], laidByText := true, laidKinds := [.data], laidTests := true, laidLooks := .later }
def FnTurnsUptoCardSaid : Prop := Claim7.holds Tryd.pinned (.plain (OpenSpec.upto fnTurnsSpec)) fnTurnsUptoCard

/-- THE SECOND FORM's CARD OF 'laws.FnAppended'. -/
def fnAppendedUptoCard : Claim7 := { stood := { row := fnAppendedUptoRow, standIns := [], harness := (true, "1bb5065babd3ff27e993fab0adc34c784715a9ba2671217c9486ee42399edc77"), looks := false }, kinds := [], alts := [], laidByText := true, laidKinds := [.data], laidTests := true, laidLooks := .later }
def FnAppendedUptoCardSaid : Prop := Claim7.holds Tryd.pinned (.plain (OpenSpec.upto fnAppendedSpec)) fnAppendedUptoCard

/-- THE SECOND FORM's CARD OF 'laws.FnTold'. -/
def fnToldUptoCard : Claim7 := { stood := { row := fnToldUptoRow, standIns := [], harness := (true, "1bb5065babd3ff27e993fab0adc34c784715a9ba2671217c9486ee42399edc77"), looks := false }, kinds := [], alts := [], laidByText := true, laidKinds := [.data], laidTests := true, laidLooks := .later }
def FnToldUptoCardSaid : Prop := Claim7.holds Tryd.pinned (.plain (OpenSpec.upto fnToldSpec)) fnToldUptoCard

/-- THE SECOND FORM's CARD OF 'laws.FnSplit'. -/
def fnSplitUptoCard : Claim7 := { stood := { row := fnSplitUptoRow, standIns := [], harness := (true, "1bb5065babd3ff27e993fab0adc34c784715a9ba2671217c9486ee42399edc77"), looks := false }, kinds := [], alts := [], laidByText := true, laidKinds := [.data], laidTests := true, laidLooks := .later }
def FnSplitUptoCardSaid : Prop := Claim7.holds Tryd.pinned (.plain (OpenSpec.upto fnSplitSpec)) fnSplitUptoCard

/-- THE SECOND FORM's CARD OF 'laws.FnTimes'. -/
def fnTimesUptoCard : Claim7 := { stood := { row := fnTimesUptoRow, standIns := [], harness := (true, "1bb5065babd3ff27e993fab0adc34c784715a9ba2671217c9486ee42399edc77"), looks := false }, kinds := [], alts := [], laidByText := true, laidKinds := [.data], laidTests := true, laidLooks := .later }
def FnTimesUptoCardSaid : Prop := Claim7.holds Tryd.pinned (.plain (OpenSpec.upto fnTimesSpec)) fnTimesUptoCard

/-- THE SECOND FORM's CARD OF 'laws.FnCutState'. -/
def fnCutStateUptoCard : Claim7 := { stood := { row := fnCutStateUptoRow, standIns := [], harness := (true, "1bb5065babd3ff27e993fab0adc34c784715a9ba2671217c9486ee42399edc77"), looks := false }, kinds := [], alts := [], laidByText := true, laidKinds := [.data], laidTests := true, laidLooks := .later }
def FnCutStateUptoCardSaid : Prop := Claim7.holds Tryd.pinned (.plain (OpenSpec.upto fnCutStateSpec)) fnCutStateUptoCard

/-- THE SECOND FORM's CARD OF 'laws.FnResumed'. -/
def fnResumedUptoCard : Claim7 := { stood := { row := fnResumedUptoRow, standIns := [], harness := (true, "1bb5065babd3ff27e993fab0adc34c784715a9ba2671217c9486ee42399edc77"), looks := false }, kinds := [], alts := [], laidByText := true, laidKinds := [.data], laidTests := true, laidLooks := .later }
def FnResumedUptoCardSaid : Prop := Claim7.holds Tryd.pinned (.plain (OpenSpec.upto fnResumedSpec)) fnResumedUptoCard

/-- THE SECOND FORM's CARD OF 'laws.FnRoads'. -/
def fnRoadsUptoCard : Claim7 := { stood := { row := fnRoadsUptoRow, standIns := [], harness := (true, "1bb5065babd3ff27e993fab0adc34c784715a9ba2671217c9486ee42399edc77"), looks := false }, kinds := [], alts := [], laidByText := true, laidKinds := [.data], laidTests := true, laidLooks := .later }
def FnRoadsUptoCardSaid : Prop := Claim7.holds Tryd.pinned (.plain (OpenSpec.upto fnRoadsSpec)) fnRoadsUptoCard

/-- THE SECOND FORM's CARD OF 'laws.FnKept'. -/
def fnKeptUptoCard : Claim7 := { stood := { row := fnKeptUptoRow, standIns := [], harness := (true, "1bb5065babd3ff27e993fab0adc34c784715a9ba2671217c9486ee42399edc77"), looks := false }, kinds := [], alts := [], laidByText := true, laidKinds := [.data], laidTests := true, laidLooks := .later }
def FnKeptUptoCardSaid : Prop := Claim7.holds Tryd.pinned (.plain (OpenSpec.upto fnKeptSpec)) fnKeptUptoCard
end Rows
end Go.Proofs.YtmcjajeglmjghaaDoor
