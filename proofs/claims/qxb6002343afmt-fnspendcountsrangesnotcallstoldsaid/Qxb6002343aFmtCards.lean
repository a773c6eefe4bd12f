/-
  DERIVED. GIVEN WITH THE SEED: THE CARDS: each row of Qxb6002343aFmtRows.lean that lists a variable, with what it lists TIED to the program's text (the seventh form; the later family's looks); each row that meets fmt, with fmt's text TOLD by the authors' own Lean function (tested against real Go, not proved from fmt's source: count such statements apart). THE CARD IS WHAT COUNTS. Prove the row's statement (the work); the ties are given (Qxb6002343aFmtTie.lean); close each card by the builder's one call (the guide's Derived/Test/ToyasCard.lean, 'card_holds'). Laid BY PROGRAM, IN A SANDBOX (cutbox-door.mjs). By AI agents, Wed Nov 11 2026. No macro, syntax, notation, axiom, sorry.
-/
import Derived.Test.Qxb6002343aFmtRows
import GoSem.ClaimSeven
namespace Go.Proofs.Qxb6002343aFmt
namespace Rows

/-- THE TOLD CARD OF 'zzlaws_root_g1.FnSpanAcceptsExactlyPositionsInOrder'. -/
def fnSpanAcceptsExactlyPositionsInOrderCard : Claim7 := { stood := { row := fnSpanAcceptsExactlyPositionsInOrderRow, standIns := [], harness := (true, "51c38823b6343127a848b3ab868d7ec9b95cafa69ef4d33af3375104b31b31fa"), looks := false }, told := true, goes := false }
def FnSpanAcceptsExactlyPositionsInOrderToldSaid : Prop := Claim7.holds Tryf.pinned (.plain (OpenSpec.ofChange fnSpanAcceptsExactlyPositionsInOrderSpec)) fnSpanAcceptsExactlyPositionsInOrderCard
/-- ITS FALSE NEIGHBOUR. Refute it at one input. -/
def FnSpanAcceptsExactlyPositionsInOrderToldWrongFalsely : Prop := Claim7.holds Tryf.pinned (.plain (OpenSpec.ofChange fnSpanAcceptsExactlyPositionsInOrderWrong)) fnSpanAcceptsExactlyPositionsInOrderCard

/-- THE TOLD CARD OF 'zzlaws_root_g1.FnSpanOpenEndIsTheLength'. -/
def fnSpanOpenEndIsTheLengthCard : Claim7 := { stood := { row := fnSpanOpenEndIsTheLengthRow, standIns := [], harness := (true, "51c38823b6343127a848b3ab868d7ec9b95cafa69ef4d33af3375104b31b31fa"), looks := false }, told := true, goes := false }
def FnSpanOpenEndIsTheLengthToldSaid : Prop := Claim7.holds Tryf.pinned (.plain (OpenSpec.ofChange fnSpanOpenEndIsTheLengthSpec)) fnSpanOpenEndIsTheLengthCard
/-- ITS FALSE NEIGHBOUR. Refute it at one input. -/
def FnSpanOpenEndIsTheLengthToldWrongFalsely : Prop := Claim7.holds Tryf.pinned (.plain (OpenSpec.ofChange fnSpanOpenEndIsTheLengthWrong)) fnSpanOpenEndIsTheLengthCard

/-- THE TOLD CARD OF 'zzlaws_root_g1.FnSpanStaysInALongerString'. -/
def fnSpanStaysInALongerStringCard : Claim7 := { stood := { row := fnSpanStaysInALongerStringRow, standIns := [], harness := (true, "51c38823b6343127a848b3ab868d7ec9b95cafa69ef4d33af3375104b31b31fa"), looks := false }, told := true, goes := false }
def FnSpanStaysInALongerStringToldSaid : Prop := Claim7.holds Tryf.pinned (.plain (OpenSpec.ofChange fnSpanStaysInALongerStringSpec)) fnSpanStaysInALongerStringCard
/-- ITS FALSE NEIGHBOUR. Refute it at one input. -/
def FnSpanStaysInALongerStringToldWrongFalsely : Prop := Claim7.holds Tryf.pinned (.plain (OpenSpec.ofChange fnSpanStaysInALongerStringWrong)) fnSpanStaysInALongerStringCard

/-- THE TOLD CARD OF 'zzlaws_root_g1.FnDoubleToIntegerTruncatesTowardZero'. -/
def fnDoubleToIntegerTruncatesTowardZeroCard : Claim7 := { stood := { row := fnDoubleToIntegerTruncatesTowardZeroRow, standIns := [], harness := (true, "51c38823b6343127a848b3ab868d7ec9b95cafa69ef4d33af3375104b31b31fa"), looks := false }, told := true, goes := false }
def FnDoubleToIntegerTruncatesTowardZeroToldSaid : Prop := Claim7.holds Tryf.pinned (.plain (OpenSpec.ofChange fnDoubleToIntegerTruncatesTowardZeroSpec)) fnDoubleToIntegerTruncatesTowardZeroCard
/-- ITS FALSE NEIGHBOUR. Refute it at one input. -/
def FnDoubleToIntegerTruncatesTowardZeroToldWrongFalsely : Prop := Claim7.holds Tryf.pinned (.plain (OpenSpec.ofChange fnDoubleToIntegerTruncatesTowardZeroWrong)) fnDoubleToIntegerTruncatesTowardZeroCard

/-- THE TOLD CARD OF 'zzlaws_root_g1.FnIntegerDoubleRoundTrip'. -/
def fnIntegerDoubleRoundTripCard : Claim7 := { stood := { row := fnIntegerDoubleRoundTripRow, standIns := [], harness := (true, "51c38823b6343127a848b3ab868d7ec9b95cafa69ef4d33af3375104b31b31fa"), looks := false }, told := true, goes := false }
def FnIntegerDoubleRoundTripToldSaid : Prop := Claim7.holds Tryf.pinned (.plain (OpenSpec.ofChange fnIntegerDoubleRoundTripSpec)) fnIntegerDoubleRoundTripCard
/-- ITS FALSE NEIGHBOUR. Refute it at one input. -/
def FnIntegerDoubleRoundTripToldWrongFalsely : Prop := Claim7.holds Tryf.pinned (.plain (OpenSpec.ofChange fnIntegerDoubleRoundTripWrong)) fnIntegerDoubleRoundTripCard

/-- THE TOLD CARD OF 'zzlaws_root_g2.FnSpendAcceptsUntilBudgetPassed'. -/
def fnSpendAcceptsUntilBudgetPassedCard : Claim7 := { stood := { row := fnSpendAcceptsUntilBudgetPassedRow, standIns := [], harness := (true, "51c38823b6343127a848b3ab868d7ec9b95cafa69ef4d33af3375104b31b31fa"), looks := false }, told := true, goes := false }
def FnSpendAcceptsUntilBudgetPassedToldSaid : Prop := Claim7.holds Tryf.pinned (.plain (OpenSpec.ofChange fnSpendAcceptsUntilBudgetPassedSpec)) fnSpendAcceptsUntilBudgetPassedCard
/-- ITS FALSE NEIGHBOUR. Refute it at one input. -/
def FnSpendAcceptsUntilBudgetPassedToldWrongFalsely : Prop := Claim7.holds Tryf.pinned (.plain (OpenSpec.ofChange fnSpendAcceptsUntilBudgetPassedWrong)) fnSpendAcceptsUntilBudgetPassedCard

/-- THE TOLD CARD OF 'zzlaws_root_g2.FnSpendCountsRangesNotCalls'. -/
def fnSpendCountsRangesNotCallsCard : Claim7 := { stood := { row := fnSpendCountsRangesNotCallsRow, standIns := [], harness := (true, "51c38823b6343127a848b3ab868d7ec9b95cafa69ef4d33af3375104b31b31fa"), looks := false }, told := true, goes := false }
def FnSpendCountsRangesNotCallsToldSaid : Prop := Claim7.holds Tryf.pinned (.plain (OpenSpec.ofChange fnSpendCountsRangesNotCallsSpec)) fnSpendCountsRangesNotCallsCard
/-- ITS FALSE NEIGHBOUR. Refute it at one input. -/
def FnSpendCountsRangesNotCallsToldWrongFalsely : Prop := Claim7.holds Tryf.pinned (.plain (OpenSpec.ofChange fnSpendCountsRangesNotCallsWrong)) fnSpendCountsRangesNotCallsCard

/-- THE TOLD CARD OF 'zzlaws_root_g1.FnMatchingNeverOverdrawsTheBudget'. -/
def fnMatchingNeverOverdrawsTheBudgetCard : Claim7 := { stood := { row := fnMatchingNeverOverdrawsTheBudgetRow, standIns := [], harness := (true, "51c38823b6343127a848b3ab868d7ec9b95cafa69ef4d33af3375104b31b31fa"), looks := false }, told := true, goes := false }
def FnMatchingNeverOverdrawsTheBudgetToldSaid : Prop := Claim7.holds Tryf.pinned (.plain (OpenSpec.ofChange fnMatchingNeverOverdrawsTheBudgetSpec)) fnMatchingNeverOverdrawsTheBudgetCard
/-- ITS FALSE NEIGHBOUR. Refute it at one input. -/
def FnMatchingNeverOverdrawsTheBudgetToldWrongFalsely : Prop := Claim7.holds Tryf.pinned (.plain (OpenSpec.ofChange fnMatchingNeverOverdrawsTheBudgetWrong)) fnMatchingNeverOverdrawsTheBudgetCard
end Rows
end Go.Proofs.Qxb6002343aFmt
