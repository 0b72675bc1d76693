/-
  DERIVED. GIVEN WITH THE SEED: THE PROGRAM's TIES (one call each: nine closed facts by the kernel) AND EACH ROW's TIE, after the 31st guide's Derived/Test/Toyas{Tie, Card}.lean. No idea stands in it: it is a product of the set-up. Laid BY PROGRAM, IN A SANDBOX (cutbox-door.mjs). By AI agents, Wed Nov 11 2026. No macro, syntax, notation, axiom, sorry.
-/
import Derived.Test.Qxb6616025aDoorRows
import Derived.LaidByTextLater
import Derived.SevenTiedAt
import Derived.LaidSub
import Derived.LaidOnce
namespace Go.Proofs.Qxb6616025aDoor
open Go
set_option maxRecDepth 100000
theorem seatTie1 : Tryd.prog.laidByTextLater [("example.com/originseal/originseal/internal/der.TagOID", Rows.laid_example_com_originseal_originseal_internal_der_TagOID), ("example.com/originseal/originseal/internal/der.TagSequence", Rows.laid_example_com_originseal_originseal_internal_der_TagSequence), ("example.com/originseal/originseal/internal/der.TagIA5String", Rows.laid_example_com_originseal_originseal_internal_der_TagIA5String)] [.data, .data, .data] true :=
  Program.laidByTextLater_by_one 24 8 4 (by kernel_rfl) (by kernel_rfl) (by kernel_rfl) (by kernel_rfl) (by kernel_rfl) (by kernel_rfl) (fun _ _ => by kernel_rfl)
theorem noOwnUnsafe : Tryd.pinned.checked.prog.headLifts.contains "ownunsafe" = false := by kernel_rfl
theorem tie : Tryd.prog.laidByTextLater [("example.com/originseal/originseal/internal/der.TagOID", Rows.laid_example_com_originseal_originseal_internal_der_TagOID), ("example.com/originseal/originseal/internal/der.TagSequence", Rows.laid_example_com_originseal_originseal_internal_der_TagSequence), ("example.com/originseal/originseal/internal/der.TagIA5String", Rows.laid_example_com_originseal_originseal_internal_der_TagIA5String)] [.data, .data, .data] true :=
  Program.laidByTextLater.sub seatTie1 ["example.com/originseal/originseal/internal/der.TagOID", "example.com/originseal/originseal/internal/der.TagSequence", "example.com/originseal/originseal/internal/der.TagIA5String"] (by kernel_rfl) (by kernel_rfl)
theorem fnMarshalAccessDescriptionsIsInjective_row_tie : Rows.fnMarshalAccessDescriptionsIsInjectiveRow.laidByTextAt .later Tryd.pinned [.data, .data, .data] true :=
  OpenClaim.laidByTextAt_later rfl rfl tie noOwnUnsafe
theorem fnMarshalAccessDescriptionsDecodesToItsArguments_row_tie : Rows.fnMarshalAccessDescriptionsDecodesToItsArgumentsRow.laidByTextAt .later Tryd.pinned [.data, .data, .data] true :=
  OpenClaim.laidByTextAt_later rfl rfl tie noOwnUnsafe
end Go.Proofs.Qxb6616025aDoor
