/-
  DERIVED. GIVEN WITH THE SEED: THE CARDS: each row of YtdabmoekhobgiaaDoorRows.lean that lists a variable, with what it lists TIED to the program's text (the seventh form; the later family's looks); each row that meets fmt, with fmt's text TOLD by the authors' own Lean function (tested against real Go, not proved from fmt's source: count such statements apart). THE CARD IS WHAT COUNTS. Prove the row's statement (the work); the ties are given (YtdabmoekhobgiaaDoorTie.lean); close each card by the builder's one call (the guide's Derived/Test/ToyasCard.lean, 'card_holds'). Laid BY PROGRAM, IN A SANDBOX (cutbox-door.mjs). By AI agents, Wed Nov 11 2026. No macro, syntax, notation, axiom, sorry.
-/
import Derived.Test.YtdabmoekhobgiaaDoorRows
import GoSem.ClaimSeven
namespace Go.Proofs.YtdabmoekhobgiaaDoor
namespace Rows

/-- THE TIED CARD OF 'laws.FnBlocksTurn'. -/
def fnBlocksTurnCard : Claim7 := { stood := { row := fnBlocksTurnRow, standIns := [], harness := (true, "f7647f92598d28b3f137c835decdcaa00a281893b09b8b7f02ee8273a9152709"), looks := false }, kinds := [], alts := [], laidByText := true, laidKinds := [.pinned], laidTests := true, laidLooks := .later }
def FnBlocksTurnCardSaid : Prop := Claim7.holds Tryd.pinned (.plain (OpenSpec.ofChange fnBlocksTurnSpec)) fnBlocksTurnCard

/-- THE TIED CARD OF 'laws.FnTurnsSettle'. -/
def fnTurnsSettleCard : Claim7 := { stood := { row := fnTurnsSettleRow, standIns := [], harness := (true, "f7647f92598d28b3f137c835decdcaa00a281893b09b8b7f02ee8273a9152709"), looks := false }, kinds := [], alts := [], laidByText := true, laidKinds := [.pinned], laidTests := true, laidLooks := .later }
def FnTurnsSettleCardSaid : Prop := Claim7.holds Tryd.pinned (.plain (OpenSpec.ofChange fnTurnsSettleSpec)) fnTurnsSettleCard

/-- THE TIED CARD OF 'laws.FnCasesExchanged'. -/
def fnCasesExchangedCard : Claim7 := { stood := { row := fnCasesExchangedRow, standIns := [], harness := (true, "f7647f92598d28b3f137c835decdcaa00a281893b09b8b7f02ee8273a9152709"), looks := false }, kinds := [], alts := [], laidByText := true, laidKinds := [.pinned], laidTests := true, laidLooks := .later }
def FnCasesExchangedCardSaid : Prop := Claim7.holds Tryd.pinned (.plain (OpenSpec.ofChange fnCasesExchangedSpec)) fnCasesExchangedCard

/-- THE TIED CARD OF 'laws.FnMoved'. -/
def fnMovedCard : Claim7 := { stood := { row := fnMovedRow, standIns := [], harness := (true, "f7647f92598d28b3f137c835decdcaa00a281893b09b8b7f02ee8273a9152709"), looks := false }, kinds := [], alts := [], laidByText := true, laidKinds := [.pinned], laidTests := true, laidLooks := .later }
def FnMovedCardSaid : Prop := Claim7.holds Tryd.pinned (.plain (OpenSpec.ofChange fnMovedSpec)) fnMovedCard

/-- THE TIED CARD OF 'laws.FnManyRanges'. -/
def fnManyRangesCard : Claim7 := { stood := { row := fnManyRangesRow, standIns := [], harness := (true, "f7647f92598d28b3f137c835decdcaa00a281893b09b8b7f02ee8273a9152709"), looks := false }, kinds := [], alts := [], laidByText := true, laidKinds := [.pinned], laidTests := true, laidLooks := .later }
def FnManyRangesCardSaid : Prop := Claim7.holds Tryd.pinned (.plain (OpenSpec.ofChange fnManyRangesSpec)) fnManyRangesCard

/-- THE TIED CARD OF 'laws.FnStandardAsList'. -/
def fnStandardAsListCard : Claim7 := { stood := { row := fnStandardAsListRow, standIns := [], harness := (true, "f7647f92598d28b3f137c835decdcaa00a281893b09b8b7f02ee8273a9152709"), looks := false }, kinds := [], alts := [], laidByText := true, laidKinds := [.pinned], laidTests := true, laidLooks := .later }
def FnStandardAsListCardSaid : Prop := Claim7.holds Tryd.pinned (.plain (OpenSpec.ofChange fnStandardAsListSpec)) fnStandardAsListCard

/-- THE TIED CARD OF 'laws.FnTabulated'. -/
def fnTabulatedCard : Claim7 := { stood := { row := fnTabulatedRow, standIns := [], harness := (true, "f7647f92598d28b3f137c835decdcaa00a281893b09b8b7f02ee8273a9152709"), looks := false }, kinds := [], alts := [], laidByText := true, laidKinds := [.pinned], laidTests := true, laidLooks := .later }
def FnTabulatedCardSaid : Prop := Claim7.holds Tryd.pinned (.plain (OpenSpec.ofChange fnTabulatedSpec)) fnTabulatedCard

/-- THE TIED CARD OF 'laws.FnScripts'. -/
def fnScriptsCard : Claim7 := { stood := { row := fnScriptsRow, standIns := [], harness := (true, "f7647f92598d28b3f137c835decdcaa00a281893b09b8b7f02ee8273a9152709"), looks := false }, kinds := [], alts := [], laidByText := true, laidKinds := [.pinned], laidTests := true, laidLooks := .later }
def FnScriptsCardSaid : Prop := Claim7.holds Tryd.pinned (.plain (OpenSpec.ofChange fnScriptsSpec)) fnScriptsCard

/-- THE TIED CARD OF 'laws.FnOverlaid'. -/
def fnOverlaidCard : Claim7 := { stood := { row := fnOverlaidRow, standIns := [], harness := (true, "f7647f92598d28b3f137c835decdcaa00a281893b09b8b7f02ee8273a9152709"), looks := false }, kinds := [], alts := [], laidByText := true, laidKinds := [.pinned], laidTests := true, laidLooks := .later }
def FnOverlaidCardSaid : Prop := Claim7.holds Tryd.pinned (.plain (OpenSpec.ofChange fnOverlaidSpec)) fnOverlaidCard

/-- THE TIED CARD OF 'laws.FnUndone'. -/
def fnUndoneCard : Claim7 := { stood := { row := fnUndoneRow, standIns := [], harness := (true, "f7647f92598d28b3f137c835decdcaa00a281893b09b8b7f02ee8273a9152709"), looks := false }, kinds := [], alts := [], laidByText := true, laidKinds := [.pinned], laidTests := true, laidLooks := .later }
def FnUndoneCardSaid : Prop := Claim7.holds Tryd.pinned (.plain (OpenSpec.ofChange fnUndoneSpec)) fnUndoneCard

/-- THE TIED CARD OF 'laws.FnAlphabet'. -/
def fnAlphabetCard : Claim7 := { stood := { row := fnAlphabetRow, standIns := [], harness := (true, "f7647f92598d28b3f137c835decdcaa00a281893b09b8b7f02ee8273a9152709"), looks := false }, kinds := [], alts := [], laidByText := true, laidKinds := [.pinned], laidTests := true, laidLooks := .later }
def FnAlphabetCardSaid : Prop := Claim7.holds Tryd.pinned (.plain (OpenSpec.ofChange fnAlphabetSpec)) fnAlphabetCard

/-- THE TIED CARD OF 'laws.FnMerged'. -/
def fnMergedCard : Claim7 := { stood := { row := fnMergedRow, standIns := [], harness := (true, "f7647f92598d28b3f137c835decdcaa00a281893b09b8b7f02ee8273a9152709"), looks := false }, kinds := [], alts := [], laidByText := true, laidKinds := [.pinned], laidTests := true, laidLooks := .later }
def FnMergedCardSaid : Prop := Claim7.holds Tryd.pinned (.plain (OpenSpec.ofChange fnMergedSpec)) fnMergedCard

/-- THE SECOND FORM's CARD OF 'laws.FnBlocksTurn'. -/
def fnBlocksTurnUptoCard : Claim7 := { stood := { row := fnBlocksTurnUptoRow, standIns := [], harness := (true, "f7647f92598d28b3f137c835decdcaa00a281893b09b8b7f02ee8273a9152709"), looks := false }, kinds := [], alts := [], laidByText := true, laidKinds := [.pinned], laidTests := true, laidLooks := .later }
def FnBlocksTurnUptoCardSaid : Prop := Claim7.holds Tryd.pinned (.plain (OpenSpec.upto fnBlocksTurnSpec)) fnBlocksTurnUptoCard

/-- THE SECOND FORM's CARD OF 'laws.FnTurnsSettle'. -/
def fnTurnsSettleUptoCard : Claim7 := { stood := { row := fnTurnsSettleUptoRow, standIns := [], harness := (true, "f7647f92598d28b3f137c835decdcaa00a281893b09b8b7f02ee8273a9152709"), looks := false }, kinds := [], alts := [], laidByText := true, laidKinds := [.pinned], laidTests := true, laidLooks := .later }
def FnTurnsSettleUptoCardSaid : Prop := Claim7.holds Tryd.pinned (.plain (OpenSpec.upto fnTurnsSettleSpec)) fnTurnsSettleUptoCard

/-- THE SECOND FORM's CARD OF 'laws.FnCasesExchanged'. -/
def fnCasesExchangedUptoCard : Claim7 := { stood := { row := fnCasesExchangedUptoRow, standIns := [], harness := (true, "f7647f92598d28b3f137c835decdcaa00a281893b09b8b7f02ee8273a9152709"), looks := false }, kinds := [], alts := [], laidByText := true, laidKinds := [.pinned], laidTests := true, laidLooks := .later }
def FnCasesExchangedUptoCardSaid : Prop := Claim7.holds Tryd.pinned (.plain (OpenSpec.upto fnCasesExchangedSpec)) fnCasesExchangedUptoCard

/-- THE SECOND FORM's CARD OF 'laws.FnMoved'. -/
def fnMovedUptoCard : Claim7 := { stood := { row := fnMovedUptoRow, standIns := [], harness := (true, "f7647f92598d28b3f137c835decdcaa00a281893b09b8b7f02ee8273a9152709"), looks := false }, kinds := [], alts := [], laidByText := true, laidKinds := [.pinned], laidTests := true, laidLooks := .later }
def FnMovedUptoCardSaid : Prop := Claim7.holds Tryd.pinned (.plain (OpenSpec.upto fnMovedSpec)) fnMovedUptoCard

/-- THE SECOND FORM's CARD OF 'laws.FnManyRanges'. -/
def fnManyRangesUptoCard : Claim7 := { stood := { row := fnManyRangesUptoRow, standIns := [], harness := (true, "f7647f92598d28b3f137c835decdcaa00a281893b09b8b7f02ee8273a9152709"), looks := false }, kinds := [], alts := [], laidByText := true, laidKinds := [.pinned], laidTests := true, laidLooks := .later }
def FnManyRangesUptoCardSaid : Prop := Claim7.holds Tryd.pinned (.plain (OpenSpec.upto fnManyRangesSpec)) fnManyRangesUptoCard

/-- THE SECOND FORM's CARD OF 'laws.FnStandardAsList'. -/
def fnStandardAsListUptoCard : Claim7 := { stood := { row := fnStandardAsListUptoRow, standIns := [], harness := (true, "f7647f92598d28b3f137c835decdcaa00a281893b09b8b7f02ee8273a9152709"), looks := false }, kinds := [], alts := [], laidByText := true, laidKinds := [.pinned], laidTests := true, laidLooks := .later }
def FnStandardAsListUptoCardSaid : Prop := Claim7.holds Tryd.pinned (.plain (OpenSpec.upto fnStandardAsListSpec)) fnStandardAsListUptoCard

/-- THE SECOND FORM's CARD OF 'laws.FnTabulated'. -/
def fnTabulatedUptoCard : Claim7 := { stood := { row := fnTabulatedUptoRow, standIns := [], harness := (true, "f7647f92598d28b3f137c835decdcaa00a281893b09b8b7f02ee8273a9152709"), looks := false }, kinds := [], alts := [], laidByText := true, laidKinds := [.pinned], laidTests := true, laidLooks := .later }
def FnTabulatedUptoCardSaid : Prop := Claim7.holds Tryd.pinned (.plain (OpenSpec.upto fnTabulatedSpec)) fnTabulatedUptoCard

/-- THE SECOND FORM's CARD OF 'laws.FnScripts'. -/
def fnScriptsUptoCard : Claim7 := { stood := { row := fnScriptsUptoRow, standIns := [], harness := (true, "f7647f92598d28b3f137c835decdcaa00a281893b09b8b7f02ee8273a9152709"), looks := false }, kinds := [], alts := [], laidByText := true, laidKinds := [.pinned], laidTests := true, laidLooks := .later }
def FnScriptsUptoCardSaid : Prop := Claim7.holds Tryd.pinned (.plain (OpenSpec.upto fnScriptsSpec)) fnScriptsUptoCard

/-- THE SECOND FORM's CARD OF 'laws.FnOverlaid'. -/
def fnOverlaidUptoCard : Claim7 := { stood := { row := fnOverlaidUptoRow, standIns := [], harness := (true, "f7647f92598d28b3f137c835decdcaa00a281893b09b8b7f02ee8273a9152709"), looks := false }, kinds := [], alts := [], laidByText := true, laidKinds := [.pinned], laidTests := true, laidLooks := .later }
def FnOverlaidUptoCardSaid : Prop := Claim7.holds Tryd.pinned (.plain (OpenSpec.upto fnOverlaidSpec)) fnOverlaidUptoCard

/-- THE SECOND FORM's CARD OF 'laws.FnUndone'. -/
def fnUndoneUptoCard : Claim7 := { stood := { row := fnUndoneUptoRow, standIns := [], harness := (true, "f7647f92598d28b3f137c835decdcaa00a281893b09b8b7f02ee8273a9152709"), looks := false }, kinds := [], alts := [], laidByText := true, laidKinds := [.pinned], laidTests := true, laidLooks := .later }
def FnUndoneUptoCardSaid : Prop := Claim7.holds Tryd.pinned (.plain (OpenSpec.upto fnUndoneSpec)) fnUndoneUptoCard

/-- THE SECOND FORM's CARD OF 'laws.FnAlphabet'. -/
def fnAlphabetUptoCard : Claim7 := { stood := { row := fnAlphabetUptoRow, standIns := [], harness := (true, "f7647f92598d28b3f137c835decdcaa00a281893b09b8b7f02ee8273a9152709"), looks := false }, kinds := [], alts := [], laidByText := true, laidKinds := [.pinned], laidTests := true, laidLooks := .later }
def FnAlphabetUptoCardSaid : Prop := Claim7.holds Tryd.pinned (.plain (OpenSpec.upto fnAlphabetSpec)) fnAlphabetUptoCard

/-- THE SECOND FORM's CARD OF 'laws.FnMerged'. -/
def fnMergedUptoCard : Claim7 := { stood := { row := fnMergedUptoRow, standIns := [], harness := (true, "f7647f92598d28b3f137c835decdcaa00a281893b09b8b7f02ee8273a9152709"), looks := false }, kinds := [], alts := [], laidByText := true, laidKinds := [.pinned], laidTests := true, laidLooks := .later }
def FnMergedUptoCardSaid : Prop := Claim7.holds Tryd.pinned (.plain (OpenSpec.upto fnMergedSpec)) fnMergedUptoCard
end Rows
end Go.Proofs.YtdabmoekhobgiaaDoor
