/-
  No cell of these rows narrows 'for every input' (looked for: loops, veiled, ifaces, maps, wideKeys, modest, calm, conditions, laid).
  DERIVED. THE GIVEN ROWS OF THIS SEAT. 1 by the template 'for every input the law returns true; each argument reads behind the call as it read before'; 0 by the template 'total and deterministic' (their statements: Qxb6609080aTotals.lean).
  GIVEN WITH THE SEED: the statements are not yours to turn. If you find one false, say at which input.
  Laid BY PROGRAM, IN A SANDBOX (cutbox-rows.mjs): the forced cells as the released guide's own fill.sh prints them over the translation 50a8116904bc447c… (all of the seat's roots in one cut). By AI agents, Wed Nov 11 2026. No macro, syntax, notation, axiom, sorry.
-/
import Derived.Test.Qxb6609080aChecked
import GoSem.Claim
import GoSem.ClaimJoined
import GoSem.ClaimMapViews
import Derived.JoinedTies
import Derived.KernelRfl
namespace Go.Proofs.Qxb6609080a
/- THE CELL 'sum', in the pinned program and in every row, IS THE sha256 OF THE DUMP (.gsa) THAT Qxb6609080aProg.lean LOADS. Nothing in Lean hashes anything: it is a label: what it is worth is what the hold of that sum in a sandbox is worth. -/
noncomputable def Try.pinned : Pinned := { name := "qxb6609080a", sum := "50a8116904bc447cbfdf46a77100a101730a054d65966540ce698acbc3e2787d", checked := Try.checked }
namespace Rows
def none {H : Type} : Left H := { results := [], args := [] }

/-- 'zzlaws_pkg_plan_b1.FnFieldNamesFreshEachCall': WHATEVER THE INPUT: true; the input reads as it did. -/
def fnFieldNamesFreshEachCallSpec : ChangeSpec := { name := "fnFieldNamesFreshEachCall", fn := fun _ => fun
  | [d] => { results := [.lit (.bool true)], args := [d] }
  | _ => none }
def fnFieldNamesFreshEachCallRow : OpenClaim := { program := "qxb6609080a", sum := "50a8116904bc447cbfdf46a77100a101730a054d65966540ce698acbc3e2787d", func := "example.com/tranchery/tranchery/zzlaws_pkg_plan_b1.FnFieldNamesFreshEachCall", spec := "fnFieldNamesFreshEachCall", apart := false }
def FnFieldNamesFreshEachCallSaid : Prop := fnFieldNamesFreshEachCallRow.holds Try.pinned (OpenSpec.ofChange fnFieldNamesFreshEachCallSpec)

/-- ITS FALSE NEIGHBOUR: 'it returns false'. Refute it at one input. -/
def fnFieldNamesFreshEachCallWrong : ChangeSpec := { name := "fnFieldNamesFreshEachCall", fn := fun _ => fun
  | [d] => { results := [.lit (.bool false)], args := [d] }
  | _ => none }
def FnFieldNamesFreshEachCallWrongFalsely : Prop := fnFieldNamesFreshEachCallRow.holds Try.pinned (OpenSpec.ofChange fnFieldNamesFreshEachCallWrong)

end Rows
end Go.Proofs.Qxb6609080a
