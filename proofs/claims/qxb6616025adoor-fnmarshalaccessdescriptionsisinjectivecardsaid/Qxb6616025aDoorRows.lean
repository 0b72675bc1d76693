/-
  NARROWER THAN 'FOR EVERY INPUT', by the rows' own cells (each row's printed sentence says how): FnMarshalAccessDescriptionsIsInjective: laid · FnMarshalAccessDescriptionsDecodesToItsArguments: laid.
  DERIVED. THE GIVEN ROWS OF THIS SEAT. 2 by the template 'for every input the law returns true; each argument reads behind the call as it read before'; 0 by the template 'total and deterministic' (their statements: Qxb6616025aDoorTotals.lean).
  GIVEN WITH THE SEED: the statements are not yours to turn. If you find one false, say at which input.
  Laid BY PROGRAM, IN A SANDBOX (cutbox-rows.mjs): the forced cells as the released guide's own fill.sh prints them over the translation 5c8663bdc3c71249… (all of the seat's roots in one cut). By AI agents, Wed Nov 11 2026. No macro, syntax, notation, axiom, sorry.
-/
import Derived.Test.Qxb6616025aDoorChecked
import GoSem.Claim
import GoSem.ClaimJoined
import GoSem.ClaimMapViews
import Derived.JoinedTies
import Derived.KernelRfl
namespace Go.Proofs.Qxb6616025aDoor
/- THE CELL 'sum', in the pinned program and in every row, IS THE sha256 OF THE DUMP (.gsa) THAT Qxb6616025aDoorProg.lean LOADS. Nothing in Lean hashes anything: it is a label: what it is worth is what the hold of that sum in a sandbox is worth. -/
noncomputable def Tryd.pinned : Pinned := { name := "qxb6616025adoor", sum := "5c8663bdc3c712498f348ff7b7b481106d0cf5677f4bf981b6673e3bfba4239b", checked := Tryd.checked }
namespace Rows
def none {H : Type} : Left H := { results := [], args := [] }

/- WHAT THE LISTED PACKAGE-LEVEL VARIABLES READ AS WHEN THE CALL BEGINS. Each datum BY PROGRAM (the guide's laid-datum.mjs) off the statement by which the dump's own 'gosem.cut.vars' lays the variable. In a bare row this is a premise. The card (Qxb6616025aDoorCards.lean) ties it to the program's text. -/
def laid_example_com_originseal_originseal_internal_der_TagOID {H : Type} : DataW H := .agg [.lit (.int .u8 0), .lit (.bool false), .lit (.int .u32 6)]
def laid_example_com_originseal_originseal_internal_der_TagSequence {H : Type} : DataW H := .agg [.lit (.int .u8 0), .lit (.bool true), .lit (.int .u32 16)]
def laid_example_com_originseal_originseal_internal_der_TagIA5String {H : Type} : DataW H := .agg [.lit (.int .u8 0), .lit (.bool false), .lit (.int .u32 22)]

/-- 'zzlaws_root_b1.FnMarshalAccessDescriptionsIsInjective': WHATEVER THE INPUT: true; the input reads as it did. -/
def fnMarshalAccessDescriptionsIsInjectiveSpec : ChangeSpec := { name := "fnMarshalAccessDescriptionsIsInjective", vars := ["example.com/originseal/originseal/internal/der.TagSequence", "example.com/originseal/originseal/internal/der.TagOID", "example.com/originseal/originseal/internal/der.TagIA5String"], fn := fun _ => fun
  | [d1, d2, d3, d4, g1, g2, g3] => { results := [.lit (.bool true)], args := [d1, d2, d3, d4], vars := [g1, g2, g3] }
  | _ => none }
def fnMarshalAccessDescriptionsIsInjectiveRow : OpenClaim := { program := "qxb6616025adoor", sum := "5c8663bdc3c712498f348ff7b7b481106d0cf5677f4bf981b6673e3bfba4239b", func := "example.com/originseal/originseal/zzlaws_root_b1.FnMarshalAccessDescriptionsIsInjective", spec := "fnMarshalAccessDescriptionsIsInjective", named := ["example.com/originseal/originseal/internal/der.TagSequence", "example.com/originseal/originseal/internal/der.TagOID", "example.com/originseal/originseal/internal/der.TagIA5String"], apart := false, laid := [("example.com/originseal/originseal/internal/der.TagOID", laid_example_com_originseal_originseal_internal_der_TagOID), ("example.com/originseal/originseal/internal/der.TagSequence", laid_example_com_originseal_originseal_internal_der_TagSequence), ("example.com/originseal/originseal/internal/der.TagIA5String", laid_example_com_originseal_originseal_internal_der_TagIA5String)] }
def FnMarshalAccessDescriptionsIsInjectiveSaid : Prop := fnMarshalAccessDescriptionsIsInjectiveRow.holds Tryd.pinned (OpenSpec.ofChange fnMarshalAccessDescriptionsIsInjectiveSpec)

/-- ITS FALSE NEIGHBOUR: 'it returns false'. Refute it at one input. -/
def fnMarshalAccessDescriptionsIsInjectiveWrong : ChangeSpec := { name := "fnMarshalAccessDescriptionsIsInjective", vars := ["example.com/originseal/originseal/internal/der.TagSequence", "example.com/originseal/originseal/internal/der.TagOID", "example.com/originseal/originseal/internal/der.TagIA5String"], fn := fun _ => fun
  | [d1, d2, d3, d4, g1, g2, g3] => { results := [.lit (.bool false)], args := [d1, d2, d3, d4], vars := [g1, g2, g3] }
  | _ => none }
def FnMarshalAccessDescriptionsIsInjectiveWrongFalsely : Prop := fnMarshalAccessDescriptionsIsInjectiveRow.holds Tryd.pinned (OpenSpec.ofChange fnMarshalAccessDescriptionsIsInjectiveWrong)

/-- 'zzlaws_root_b1.FnMarshalAccessDescriptionsDecodesToItsArguments': WHATEVER THE INPUT: true; the input reads as it did. -/
def fnMarshalAccessDescriptionsDecodesToItsArgumentsSpec : ChangeSpec := { name := "fnMarshalAccessDescriptionsDecodesToItsArguments", vars := ["example.com/originseal/originseal/internal/der.TagSequence", "example.com/originseal/originseal/internal/der.TagOID", "example.com/originseal/originseal/internal/der.TagIA5String"], fn := fun _ => fun
  | [d1, d2, g1, g2, g3] => { results := [.lit (.bool true)], args := [d1, d2], vars := [g1, g2, g3] }
  | _ => none }
def fnMarshalAccessDescriptionsDecodesToItsArgumentsRow : OpenClaim := { program := "qxb6616025adoor", sum := "5c8663bdc3c712498f348ff7b7b481106d0cf5677f4bf981b6673e3bfba4239b", func := "example.com/originseal/originseal/zzlaws_root_b1.FnMarshalAccessDescriptionsDecodesToItsArguments", spec := "fnMarshalAccessDescriptionsDecodesToItsArguments", named := ["example.com/originseal/originseal/internal/der.TagSequence", "example.com/originseal/originseal/internal/der.TagOID", "example.com/originseal/originseal/internal/der.TagIA5String"], apart := false, laid := [("example.com/originseal/originseal/internal/der.TagOID", laid_example_com_originseal_originseal_internal_der_TagOID), ("example.com/originseal/originseal/internal/der.TagSequence", laid_example_com_originseal_originseal_internal_der_TagSequence), ("example.com/originseal/originseal/internal/der.TagIA5String", laid_example_com_originseal_originseal_internal_der_TagIA5String)] }
def FnMarshalAccessDescriptionsDecodesToItsArgumentsSaid : Prop := fnMarshalAccessDescriptionsDecodesToItsArgumentsRow.holds Tryd.pinned (OpenSpec.ofChange fnMarshalAccessDescriptionsDecodesToItsArgumentsSpec)

/-- ITS FALSE NEIGHBOUR: 'it returns false'. Refute it at one input. -/
def fnMarshalAccessDescriptionsDecodesToItsArgumentsWrong : ChangeSpec := { name := "fnMarshalAccessDescriptionsDecodesToItsArguments", vars := ["example.com/originseal/originseal/internal/der.TagSequence", "example.com/originseal/originseal/internal/der.TagOID", "example.com/originseal/originseal/internal/der.TagIA5String"], fn := fun _ => fun
  | [d1, d2, g1, g2, g3] => { results := [.lit (.bool false)], args := [d1, d2], vars := [g1, g2, g3] }
  | _ => none }
def FnMarshalAccessDescriptionsDecodesToItsArgumentsWrongFalsely : Prop := fnMarshalAccessDescriptionsDecodesToItsArgumentsRow.holds Tryd.pinned (OpenSpec.ofChange fnMarshalAccessDescriptionsDecodesToItsArgumentsWrong)

end Rows
end Go.Proofs.Qxb6616025aDoor
