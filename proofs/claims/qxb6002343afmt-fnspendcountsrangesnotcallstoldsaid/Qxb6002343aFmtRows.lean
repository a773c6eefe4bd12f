/-
  No cell of these rows narrows 'for every input' (looked for: loops, veiled, ifaces, maps, wideKeys, modest, calm, conditions, laid).
  DERIVED. THE GIVEN ROWS OF THIS SEAT. 8 by the template 'for every input the law returns true; each argument reads behind the call as it read before'; 0 by the template 'total and deterministic' (their statements: Qxb6002343aFmtTotals.lean).
  GIVEN WITH THE SEED: the statements are not yours to turn. If you find one false, say at which input.
  Laid BY PROGRAM, IN A SANDBOX (cutbox-rows.mjs): the forced cells as the released guide's own fill.sh prints them over the translation cb730ce6bb2265ca… (all of the seat's roots in one cut). By AI agents, Wed Nov 11 2026. No macro, syntax, notation, axiom, sorry.
-/
import Derived.Test.Qxb6002343aFmtChecked
import GoSem.Claim
import GoSem.ClaimJoined
import GoSem.ClaimMapViews
import Derived.JoinedTies
import Derived.KernelRfl
namespace Go.Proofs.Qxb6002343aFmt
/- THE CELL 'sum', in the pinned program and in every row, IS THE sha256 OF THE DUMP (.gsa) THAT Qxb6002343aFmtProg.lean LOADS. Nothing in Lean hashes anything: it is a label: what it is worth is what the hold of that sum in a sandbox is worth. -/
noncomputable def Tryf.pinned : Pinned := { name := "qxb6002343afmt", sum := "cb730ce6bb2265cad0e6acf2bf6100a69eb4063bbbedd24054e8264db1538262", checked := Tryf.checked }
namespace Rows
def none {H : Type} : Left H := { results := [], args := [] }

/-- 'zzlaws_root_g1.FnSpanAcceptsExactlyPositionsInOrder': WHATEVER THE INPUT: true; the input reads as it did. -/
def fnSpanAcceptsExactlyPositionsInOrderSpec : ChangeSpec := { name := "fnSpanAcceptsExactlyPositionsInOrder", fn := fun _ => fun
  | [d1, d2, d3] => { results := [.lit (.bool true)], args := [d1, d2, d3] }
  | _ => none }
def fnSpanAcceptsExactlyPositionsInOrderRow : OpenClaim := { program := "qxb6002343afmt", sum := "cb730ce6bb2265cad0e6acf2bf6100a69eb4063bbbedd24054e8264db1538262", func := "example.com/firethorn/firethorn/zzlaws_root_g1.FnSpanAcceptsExactlyPositionsInOrder", spec := "fnSpanAcceptsExactlyPositionsInOrder", stops := ["fmt.errorf"], inPlace := ["fmt.errorf"], apart := false }
/-- NO THEOREM (fmt's text is open here; it may be false): for the released tool's asking of the row's closed facts alone. THE STATEMENT IS 'FnSpanAcceptsExactlyPositionsInOrderToldSaid' (Qxb6002343aFmtCards.lean). -/
def FnSpanAcceptsExactlyPositionsInOrderFormAsk : Prop := fnSpanAcceptsExactlyPositionsInOrderRow.holds Tryf.pinned (OpenSpec.ofChange fnSpanAcceptsExactlyPositionsInOrderSpec)

/-- ITS FALSE NEIGHBOUR: 'it returns false'. Refute it at one input. -/
def fnSpanAcceptsExactlyPositionsInOrderWrong : ChangeSpec := { name := "fnSpanAcceptsExactlyPositionsInOrder", fn := fun _ => fun
  | [d1, d2, d3] => { results := [.lit (.bool false)], args := [d1, d2, d3] }
  | _ => none }
def FnSpanAcceptsExactlyPositionsInOrderWrongFormAsk : Prop := fnSpanAcceptsExactlyPositionsInOrderRow.holds Tryf.pinned (OpenSpec.ofChange fnSpanAcceptsExactlyPositionsInOrderWrong)

/-- 'zzlaws_root_g1.FnSpanOpenEndIsTheLength': WHATEVER THE INPUT: true; the input reads as it did. -/
def fnSpanOpenEndIsTheLengthSpec : ChangeSpec := { name := "fnSpanOpenEndIsTheLength", fn := fun _ => fun
  | [d1, d2] => { results := [.lit (.bool true)], args := [d1, d2] }
  | _ => none }
def fnSpanOpenEndIsTheLengthRow : OpenClaim := { program := "qxb6002343afmt", sum := "cb730ce6bb2265cad0e6acf2bf6100a69eb4063bbbedd24054e8264db1538262", func := "example.com/firethorn/firethorn/zzlaws_root_g1.FnSpanOpenEndIsTheLength", spec := "fnSpanOpenEndIsTheLength", stops := ["fmt.errorf"], inPlace := ["fmt.errorf"], apart := false }
/-- NO THEOREM (fmt's text is open here; it may be false): for the released tool's asking of the row's closed facts alone. THE STATEMENT IS 'FnSpanOpenEndIsTheLengthToldSaid' (Qxb6002343aFmtCards.lean). -/
def FnSpanOpenEndIsTheLengthFormAsk : Prop := fnSpanOpenEndIsTheLengthRow.holds Tryf.pinned (OpenSpec.ofChange fnSpanOpenEndIsTheLengthSpec)

/-- ITS FALSE NEIGHBOUR: 'it returns false'. Refute it at one input. -/
def fnSpanOpenEndIsTheLengthWrong : ChangeSpec := { name := "fnSpanOpenEndIsTheLength", fn := fun _ => fun
  | [d1, d2] => { results := [.lit (.bool false)], args := [d1, d2] }
  | _ => none }
def FnSpanOpenEndIsTheLengthWrongFormAsk : Prop := fnSpanOpenEndIsTheLengthRow.holds Tryf.pinned (OpenSpec.ofChange fnSpanOpenEndIsTheLengthWrong)

/-- 'zzlaws_root_g1.FnSpanStaysInALongerString': WHATEVER THE INPUT: true; the input reads as it did. -/
def fnSpanStaysInALongerStringSpec : ChangeSpec := { name := "fnSpanStaysInALongerString", fn := fun _ => fun
  | [d1, d2, d3, d4] => { results := [.lit (.bool true)], args := [d1, d2, d3, d4] }
  | _ => none }
def fnSpanStaysInALongerStringRow : OpenClaim := { program := "qxb6002343afmt", sum := "cb730ce6bb2265cad0e6acf2bf6100a69eb4063bbbedd24054e8264db1538262", func := "example.com/firethorn/firethorn/zzlaws_root_g1.FnSpanStaysInALongerString", spec := "fnSpanStaysInALongerString", stops := ["fmt.errorf"], inPlace := ["fmt.errorf"], apart := false }
/-- NO THEOREM (fmt's text is open here; it may be false): for the released tool's asking of the row's closed facts alone. THE STATEMENT IS 'FnSpanStaysInALongerStringToldSaid' (Qxb6002343aFmtCards.lean). -/
def FnSpanStaysInALongerStringFormAsk : Prop := fnSpanStaysInALongerStringRow.holds Tryf.pinned (OpenSpec.ofChange fnSpanStaysInALongerStringSpec)

/-- ITS FALSE NEIGHBOUR: 'it returns false'. Refute it at one input. -/
def fnSpanStaysInALongerStringWrong : ChangeSpec := { name := "fnSpanStaysInALongerString", fn := fun _ => fun
  | [d1, d2, d3, d4] => { results := [.lit (.bool false)], args := [d1, d2, d3, d4] }
  | _ => none }
def FnSpanStaysInALongerStringWrongFormAsk : Prop := fnSpanStaysInALongerStringRow.holds Tryf.pinned (OpenSpec.ofChange fnSpanStaysInALongerStringWrong)

/-- 'zzlaws_root_g1.FnDoubleToIntegerTruncatesTowardZero': WHATEVER THE INPUT: true; the input reads as it did. -/
def fnDoubleToIntegerTruncatesTowardZeroSpec : ChangeSpec := { name := "fnDoubleToIntegerTruncatesTowardZero", fn := fun _ => fun
  | [d] => { results := [.lit (.bool true)], args := [d] }
  | _ => none }
def fnDoubleToIntegerTruncatesTowardZeroRow : OpenClaim := { program := "qxb6002343afmt", sum := "cb730ce6bb2265cad0e6acf2bf6100a69eb4063bbbedd24054e8264db1538262", func := "example.com/firethorn/firethorn/zzlaws_root_g1.FnDoubleToIntegerTruncatesTowardZero", spec := "fnDoubleToIntegerTruncatesTowardZero", stops := ["fmt.errorf"], inPlace := ["math.archTrunc", "math.Float64bits", "math.Float64frombits", "fmt.errorf"], apart := false }
/-- NO THEOREM (fmt's text is open here; it may be false): for the released tool's asking of the row's closed facts alone. THE STATEMENT IS 'FnDoubleToIntegerTruncatesTowardZeroToldSaid' (Qxb6002343aFmtCards.lean). -/
def FnDoubleToIntegerTruncatesTowardZeroFormAsk : Prop := fnDoubleToIntegerTruncatesTowardZeroRow.holds Tryf.pinned (OpenSpec.ofChange fnDoubleToIntegerTruncatesTowardZeroSpec)

/-- ITS FALSE NEIGHBOUR: 'it returns false'. Refute it at one input. -/
def fnDoubleToIntegerTruncatesTowardZeroWrong : ChangeSpec := { name := "fnDoubleToIntegerTruncatesTowardZero", fn := fun _ => fun
  | [d] => { results := [.lit (.bool false)], args := [d] }
  | _ => none }
def FnDoubleToIntegerTruncatesTowardZeroWrongFormAsk : Prop := fnDoubleToIntegerTruncatesTowardZeroRow.holds Tryf.pinned (OpenSpec.ofChange fnDoubleToIntegerTruncatesTowardZeroWrong)

/-- 'zzlaws_root_g1.FnIntegerDoubleRoundTrip': WHATEVER THE INPUT: true; the input reads as it did. -/
def fnIntegerDoubleRoundTripSpec : ChangeSpec := { name := "fnIntegerDoubleRoundTrip", fn := fun _ => fun
  | [d] => { results := [.lit (.bool true)], args := [d] }
  | _ => none }
def fnIntegerDoubleRoundTripRow : OpenClaim := { program := "qxb6002343afmt", sum := "cb730ce6bb2265cad0e6acf2bf6100a69eb4063bbbedd24054e8264db1538262", func := "example.com/firethorn/firethorn/zzlaws_root_g1.FnIntegerDoubleRoundTrip", spec := "fnIntegerDoubleRoundTrip", stops := ["fmt.errorf"], inPlace := ["math.archTrunc", "math.Float64bits", "math.Float64frombits", "fmt.errorf"], apart := false }
/-- NO THEOREM (fmt's text is open here; it may be false): for the released tool's asking of the row's closed facts alone. THE STATEMENT IS 'FnIntegerDoubleRoundTripToldSaid' (Qxb6002343aFmtCards.lean). -/
def FnIntegerDoubleRoundTripFormAsk : Prop := fnIntegerDoubleRoundTripRow.holds Tryf.pinned (OpenSpec.ofChange fnIntegerDoubleRoundTripSpec)

/-- ITS FALSE NEIGHBOUR: 'it returns false'. Refute it at one input. -/
def fnIntegerDoubleRoundTripWrong : ChangeSpec := { name := "fnIntegerDoubleRoundTrip", fn := fun _ => fun
  | [d] => { results := [.lit (.bool false)], args := [d] }
  | _ => none }
def FnIntegerDoubleRoundTripWrongFormAsk : Prop := fnIntegerDoubleRoundTripRow.holds Tryf.pinned (OpenSpec.ofChange fnIntegerDoubleRoundTripWrong)

/-- 'zzlaws_root_g2.FnSpendAcceptsUntilBudgetPassed': WHATEVER THE INPUT: true; the input reads as it did. -/
def fnSpendAcceptsUntilBudgetPassedSpec : ChangeSpec := { name := "fnSpendAcceptsUntilBudgetPassed", fn := fun _ => fun
  | [d] => { results := [.lit (.bool true)], args := [d] }
  | _ => none }
def fnSpendAcceptsUntilBudgetPassedRow : OpenClaim := { program := "qxb6002343afmt", sum := "cb730ce6bb2265cad0e6acf2bf6100a69eb4063bbbedd24054e8264db1538262", func := "example.com/firethorn/firethorn/zzlaws_root_g2.FnSpendAcceptsUntilBudgetPassed", spec := "fnSpendAcceptsUntilBudgetPassed", stops := ["fmt.errorf"], inPlace := ["fmt.errorf"], apart := false }
/-- NO THEOREM (fmt's text is open here; it may be false): for the released tool's asking of the row's closed facts alone. THE STATEMENT IS 'FnSpendAcceptsUntilBudgetPassedToldSaid' (Qxb6002343aFmtCards.lean). -/
def FnSpendAcceptsUntilBudgetPassedFormAsk : Prop := fnSpendAcceptsUntilBudgetPassedRow.holds Tryf.pinned (OpenSpec.ofChange fnSpendAcceptsUntilBudgetPassedSpec)

/-- ITS FALSE NEIGHBOUR: 'it returns false'. Refute it at one input. -/
def fnSpendAcceptsUntilBudgetPassedWrong : ChangeSpec := { name := "fnSpendAcceptsUntilBudgetPassed", fn := fun _ => fun
  | [d] => { results := [.lit (.bool false)], args := [d] }
  | _ => none }
def FnSpendAcceptsUntilBudgetPassedWrongFormAsk : Prop := fnSpendAcceptsUntilBudgetPassedRow.holds Tryf.pinned (OpenSpec.ofChange fnSpendAcceptsUntilBudgetPassedWrong)

/-- 'zzlaws_root_g2.FnSpendCountsRangesNotCalls': WHATEVER THE INPUT: true; the input reads as it did. -/
def fnSpendCountsRangesNotCallsSpec : ChangeSpec := { name := "fnSpendCountsRangesNotCalls", fn := fun _ => fun
  | [d1, d2, d3] => { results := [.lit (.bool true)], args := [d1, d2, d3] }
  | _ => none }
def fnSpendCountsRangesNotCallsRow : OpenClaim := { program := "qxb6002343afmt", sum := "cb730ce6bb2265cad0e6acf2bf6100a69eb4063bbbedd24054e8264db1538262", func := "example.com/firethorn/firethorn/zzlaws_root_g2.FnSpendCountsRangesNotCalls", spec := "fnSpendCountsRangesNotCalls", stops := ["fmt.errorf"], inPlace := ["fmt.errorf"], apart := false }
/-- NO THEOREM (fmt's text is open here; it may be false): for the released tool's asking of the row's closed facts alone. THE STATEMENT IS 'FnSpendCountsRangesNotCallsToldSaid' (Qxb6002343aFmtCards.lean). -/
def FnSpendCountsRangesNotCallsFormAsk : Prop := fnSpendCountsRangesNotCallsRow.holds Tryf.pinned (OpenSpec.ofChange fnSpendCountsRangesNotCallsSpec)

/-- ITS FALSE NEIGHBOUR: 'it returns false'. Refute it at one input. -/
def fnSpendCountsRangesNotCallsWrong : ChangeSpec := { name := "fnSpendCountsRangesNotCalls", fn := fun _ => fun
  | [d1, d2, d3] => { results := [.lit (.bool false)], args := [d1, d2, d3] }
  | _ => none }
def FnSpendCountsRangesNotCallsWrongFormAsk : Prop := fnSpendCountsRangesNotCallsRow.holds Tryf.pinned (OpenSpec.ofChange fnSpendCountsRangesNotCallsWrong)

/-- 'zzlaws_root_g1.FnMatchingNeverOverdrawsTheBudget': WHATEVER THE INPUT: true; the input reads as it did. -/
def fnMatchingNeverOverdrawsTheBudgetSpec : ChangeSpec := { name := "fnMatchingNeverOverdrawsTheBudget", fn := fun _ => fun
  | [d1, d2, d3] => { results := [.lit (.bool true)], args := [d1, d2, d3] }
  | _ => none }
def fnMatchingNeverOverdrawsTheBudgetRow : OpenClaim := { program := "qxb6002343afmt", sum := "cb730ce6bb2265cad0e6acf2bf6100a69eb4063bbbedd24054e8264db1538262", func := "example.com/firethorn/firethorn/zzlaws_root_g1.FnMatchingNeverOverdrawsTheBudget", spec := "fnMatchingNeverOverdrawsTheBudget", stops := ["fmt.errorf"], inPlace := ["fmt.errorf"], apart := false }
/-- NO THEOREM (fmt's text is open here; it may be false): for the released tool's asking of the row's closed facts alone. THE STATEMENT IS 'FnMatchingNeverOverdrawsTheBudgetToldSaid' (Qxb6002343aFmtCards.lean). -/
def FnMatchingNeverOverdrawsTheBudgetFormAsk : Prop := fnMatchingNeverOverdrawsTheBudgetRow.holds Tryf.pinned (OpenSpec.ofChange fnMatchingNeverOverdrawsTheBudgetSpec)

/-- ITS FALSE NEIGHBOUR: 'it returns false'. Refute it at one input. -/
def fnMatchingNeverOverdrawsTheBudgetWrong : ChangeSpec := { name := "fnMatchingNeverOverdrawsTheBudget", fn := fun _ => fun
  | [d1, d2, d3] => { results := [.lit (.bool false)], args := [d1, d2, d3] }
  | _ => none }
def FnMatchingNeverOverdrawsTheBudgetWrongFormAsk : Prop := fnMatchingNeverOverdrawsTheBudgetRow.holds Tryf.pinned (OpenSpec.ofChange fnMatchingNeverOverdrawsTheBudgetWrong)

end Rows
end Go.Proofs.Qxb6002343aFmt
