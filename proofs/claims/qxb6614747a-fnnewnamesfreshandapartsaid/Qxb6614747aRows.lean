/-
  No cell of these rows narrows 'for every input' (looked for: loops, veiled, ifaces, maps, wideKeys, modest, calm, conditions, laid).
  DERIVED. THE GIVEN ROWS OF THIS SEAT. 1 by the template 'for every input the law returns true; each argument reads behind the call as it read before'; 0 by the template 'total and deterministic' (their statements: Qxb6614747aTotals.lean).
  GIVEN WITH THE SEED: the statements are not yours to turn. If you find one false, say at which input.
  Laid BY PROGRAM, IN A SANDBOX (cutbox-rows.mjs): the forced cells as the released guide's own fill.sh prints them over the translation 0ed223b976d85190… (all of the seat's roots in one cut). By AI agents, Wed Nov 11 2026. No macro, syntax, notation, axiom, sorry.
-/
import Derived.Test.Qxb6614747aChecked
import GoSem.Claim
import GoSem.ClaimJoined
import GoSem.ClaimMapViews
import Derived.JoinedTies
import Derived.KernelRfl
namespace Go.Proofs.Qxb6614747a
/- THE CELL 'sum', in the pinned program and in every row, IS THE sha256 OF THE DUMP (.gsa) THAT Qxb6614747aProg.lean LOADS. Nothing in Lean hashes anything: it is a label: what it is worth is what the hold of that sum in a sandbox is worth. -/
noncomputable def Try.pinned : Pinned := { name := "qxb6614747a", sum := "0ed223b976d851904625e6468aee1a973afc5676dfbfaa3dbb451bc4193130c6", checked := Try.checked }
namespace Rows
def none {H : Type} : Left H := { results := [], args := [] }

/-- 'zzlaws_internal_ima_b1.FnNewNamesFreshAndApart': WHATEVER THE INPUT: true; the input reads as it did. -/
def fnNewNamesFreshAndApartSpec : ChangeSpec := { name := "fnNewNamesFreshAndApart", fn := fun _ => fun
  | [d1, d2] => { results := [.lit (.bool true)], args := [d1, d2] }
  | _ => none }
def fnNewNamesFreshAndApartRow : OpenClaim := { program := "qxb6614747a", sum := "0ed223b976d851904625e6468aee1a973afc5676dfbfaa3dbb451bc4193130c6", func := "example.com/log-to-verdict/log-to-verdict/zzlaws_internal_ima_b1.FnNewNamesFreshAndApart", spec := "fnNewNamesFreshAndApart", apart := false }
def FnNewNamesFreshAndApartSaid : Prop := fnNewNamesFreshAndApartRow.holds Try.pinned (OpenSpec.ofChange fnNewNamesFreshAndApartSpec)

/-- ITS FALSE NEIGHBOUR: 'it returns false'. Refute it at one input. -/
def fnNewNamesFreshAndApartWrong : ChangeSpec := { name := "fnNewNamesFreshAndApart", fn := fun _ => fun
  | [d1, d2] => { results := [.lit (.bool false)], args := [d1, d2] }
  | _ => none }
def FnNewNamesFreshAndApartWrongFalsely : Prop := fnNewNamesFreshAndApartRow.holds Try.pinned (OpenSpec.ofChange fnNewNamesFreshAndApartWrong)

end Rows
end Go.Proofs.Qxb6614747a
