/-
  DERIVED. GIVEN WITH THE SEED: THE CARDS: each row of Qxb6614300aDoorRows.lean that lists a variable, with what it lists TIED to the program's text (the seventh form; the later family's looks); each row that meets fmt, with fmt's text TOLD by the authors' own Lean function (tested against real Go, not proved from fmt's source: count such statements apart). THE CARD IS WHAT COUNTS. Prove the row's statement (the work); the ties are given (Qxb6614300aDoorTie.lean); close each card by the builder's one call (the guide's Derived/Test/ToyasCard.lean, 'card_holds'). Laid BY PROGRAM, IN A SANDBOX (cutbox-door.mjs). By AI agents, Wed Nov 11 2026. No macro, syntax, notation, axiom, sorry.
-/
import Derived.Test.Qxb6614300aDoorRows
import GoSem.ClaimSeven
namespace Go.Proofs.Qxb6614300aDoor
namespace Rows

/-- THE TIED CARD OF 'zzlaws_root_b1.FnParseIntReadsSignedDecimal'. -/
def fnParseIntReadsSignedDecimalCard : Claim7 := { stood := { row := fnParseIntReadsSignedDecimalRow, standIns := [], harness := (true, "beb168ee446a4caec9eeb97774cfe00de8e2dd61e8d753c3f092bd287d8547be"), looks := true }, kinds := [], alts := [], laidByText := true, laidKinds := [.data, .data, .data, .sentinel, .sentinel], laidTests := true, laidLooks := .later }
def FnParseIntReadsSignedDecimalCardSaid : Prop := Claim7.holds Tryd.pinned (.plain (OpenSpec.ofChange fnParseIntReadsSignedDecimalSpec)) fnParseIntReadsSignedDecimalCard

/-- THE TIED CARD OF 'zzlaws_root_b1.FnParseIntMinusNegates'. -/
def fnParseIntMinusNegatesCard : Claim7 := { stood := { row := fnParseIntMinusNegatesRow, standIns := [], harness := (true, "beb168ee446a4caec9eeb97774cfe00de8e2dd61e8d753c3f092bd287d8547be"), looks := true }, kinds := [], alts := [], laidByText := true, laidKinds := [.data, .data, .data, .sentinel, .sentinel], laidTests := true, laidLooks := .later }
def FnParseIntMinusNegatesCardSaid : Prop := Claim7.holds Tryd.pinned (.plain (OpenSpec.ofChange fnParseIntMinusNegatesSpec)) fnParseIntMinusNegatesCard
end Rows
end Go.Proofs.Qxb6614300aDoor
