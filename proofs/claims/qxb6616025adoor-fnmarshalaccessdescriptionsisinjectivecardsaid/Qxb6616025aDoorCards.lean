/-
  DERIVED. GIVEN WITH THE SEED: THE CARDS: each row of Qxb6616025aDoorRows.lean that lists a variable, with what it lists TIED to the program's text (the seventh form; the later family's looks); each row that meets fmt, with fmt's text TOLD by the authors' own Lean function (tested against real Go, not proved from fmt's source: count such statements apart). THE CARD IS WHAT COUNTS. Prove the row's statement (the work); the ties are given (Qxb6616025aDoorTie.lean); close each card by the builder's one call (the guide's Derived/Test/ToyasCard.lean, 'card_holds'). Laid BY PROGRAM, IN A SANDBOX (cutbox-door.mjs). By AI agents, Wed Nov 11 2026. No macro, syntax, notation, axiom, sorry.
-/
import Derived.Test.Qxb6616025aDoorRows
import GoSem.ClaimSeven
namespace Go.Proofs.Qxb6616025aDoor
namespace Rows

/-- THE TIED CARD OF 'zzlaws_root_b1.FnMarshalAccessDescriptionsIsInjective'. -/
def fnMarshalAccessDescriptionsIsInjectiveCard : Claim7 := { stood := { row := fnMarshalAccessDescriptionsIsInjectiveRow, standIns := [], harness := (true, "ca92f79228832f0fdfacbe8beb83c33170b9eff1335a42d59801b1b0da20833d"), looks := false }, kinds := [], alts := [], laidByText := true, laidKinds := [.data, .data, .data], laidTests := true, laidLooks := .later }
def FnMarshalAccessDescriptionsIsInjectiveCardSaid : Prop := Claim7.holds Tryd.pinned (.plain (OpenSpec.ofChange fnMarshalAccessDescriptionsIsInjectiveSpec)) fnMarshalAccessDescriptionsIsInjectiveCard

/-- THE TIED CARD OF 'zzlaws_root_b1.FnMarshalAccessDescriptionsDecodesToItsArguments'. -/
def fnMarshalAccessDescriptionsDecodesToItsArgumentsCard : Claim7 := { stood := { row := fnMarshalAccessDescriptionsDecodesToItsArgumentsRow, standIns := [], harness := (true, "ca92f79228832f0fdfacbe8beb83c33170b9eff1335a42d59801b1b0da20833d"), looks := false }, kinds := [], alts := [], laidByText := true, laidKinds := [.data, .data, .data], laidTests := true, laidLooks := .later }
def FnMarshalAccessDescriptionsDecodesToItsArgumentsCardSaid : Prop := Claim7.holds Tryd.pinned (.plain (OpenSpec.ofChange fnMarshalAccessDescriptionsDecodesToItsArgumentsSpec)) fnMarshalAccessDescriptionsDecodesToItsArgumentsCard
end Rows
end Go.Proofs.Qxb6616025aDoor
