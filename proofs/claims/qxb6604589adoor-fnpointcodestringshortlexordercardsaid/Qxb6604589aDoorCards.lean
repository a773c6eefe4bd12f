/-
  DERIVED. GIVEN WITH THE SEED: THE CARDS: each row of Qxb6604589aDoorRows.lean that lists a variable, with what it lists TIED to the program's text (the seventh form; the later family's looks); each row that meets fmt, with fmt's text TOLD by the authors' own Lean function (tested against real Go, not proved from fmt's source: count such statements apart). THE CARD IS WHAT COUNTS. Prove the row's statement (the work); the ties are given (Qxb6604589aDoorTie.lean); close each card by the builder's one call (the guide's Derived/Test/ToyasCard.lean, 'card_holds'). Laid BY PROGRAM, IN A SANDBOX (cutbox-door.mjs). By AI agents, Wed Nov 11 2026. No macro, syntax, notation, axiom, sorry.
-/
import Derived.Test.Qxb6604589aDoorRows
import GoSem.ClaimSeven
namespace Go.Proofs.Qxb6604589aDoor
namespace Rows

/-- THE TIED CARD OF 'zzlaws_mtp3_b1.FnPointCodeStringDecimalRoundTrip'. -/
def fnPointCodeStringDecimalRoundTripCard : Claim7 := { stood := { row := fnPointCodeStringDecimalRoundTripRow, standIns := [], harness := (true, "cad1c0f5f0c90ecf8d0694e5990d9e69ecb2cac69afb4e5e2a314060614b0a45"), looks := false }, kinds := [], alts := [], laidByText := true, laidKinds := [.data, .data, .data], laidTests := true, laidLooks := .later }
def FnPointCodeStringDecimalRoundTripCardSaid : Prop := Claim7.holds Tryd.pinned (.plain (OpenSpec.ofChange fnPointCodeStringDecimalRoundTripSpec)) fnPointCodeStringDecimalRoundTripCard

/-- THE TIED CARD OF 'zzlaws_mtp3_b1.FnPointCodeStringShortlexOrder'. -/
def fnPointCodeStringShortlexOrderCard : Claim7 := { stood := { row := fnPointCodeStringShortlexOrderRow, standIns := [], harness := (true, "cad1c0f5f0c90ecf8d0694e5990d9e69ecb2cac69afb4e5e2a314060614b0a45"), looks := false }, kinds := [], alts := [], laidByText := true, laidKinds := [.data, .data, .data], laidTests := true, laidLooks := .later }
def FnPointCodeStringShortlexOrderCardSaid : Prop := Claim7.holds Tryd.pinned (.plain (OpenSpec.ofChange fnPointCodeStringShortlexOrderSpec)) fnPointCodeStringShortlexOrderCard
end Rows
end Go.Proofs.Qxb6604589aDoor
