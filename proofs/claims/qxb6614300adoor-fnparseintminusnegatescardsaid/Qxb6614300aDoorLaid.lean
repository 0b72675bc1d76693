/-
  THE LISTED VARIABLES: what the condition gives the walks.
-/
import Derived.Test.Qxb6614300aDoorWalks5
import Derived.ProofKit
import Derived.LaidMore
import Derived.LaidSub
import Derived.Stop.LaidTwo
namespace Go.Proofs.Qxb6614300aDoor
open Go.ChangeShapes Go.WideShapes Go.ChangeAt Go.RowKit

def laid5 : List (String × DataW Unit) := Rows.fnParseIntReadsSignedDecimalRow.laid

theorem own : ownKnob Tryd.prog.godebug = none := by kernel_rfl
theorem laidOut : laidOutB Tryd.prog = true := by kernel_rfl
theorem gSyn : Tryd.prog.globalNamed "strconv.ErrSyntax" = some 1 := by kernel_rfl
theorem tRange : (Tryd.prog.globals[0]?).map (·.type) = some 24 := by kernel_rfl
theorem tSyn : (Tryd.prog.globals[1]?).map (·.type) = some 24 := by kernel_rfl
theorem cells74 : Tryd.prog.cellsOf 74 = 1 := by kernel_rfl
theorem cells9 : Tryd.prog.cellsOf 9 = 1 := by kernel_rfl
/-- The dynamic type's name, as the given rows have it. -/
def ptrName : String := match (Rows.laid_strconv_ErrRange : DataW Unit) with | .iface n _ => n | _ => ""
theorem row72 (u : TypeId) (h : Tryd.prog.typeName? 3 u = some ptrName) : u = 72 := by
  refine typeName_ptr_named (P := Tryd.prog) (nm := "errors.errorString") ?_ (by kernel_rfl) (by decide) u ?_
  · kernel_rfl
  · rw [h]
    exact congrArg some (by decide)

theorem errs_of {W : World} (h : laidMetH Tryd.prog laid5 W) : ∃ pr ps, Errs pr ps W := by
  rw [MakeChecks.laidMetH_plain _ _ _ (by kernel_rfl)] at h
  have h3 := (show laidMet Tryd.prog (_ :: _ :: _ :: [("strconv.ErrRange", Rows.laid_strconv_ErrRange), ("strconv.ErrSyntax", Rows.laid_strconv_ErrSyntax)]) W from h).tail.tail.tail
  obtain ⟨a0, a1, s0, s1, c0, c1, t0, t1, hv0, hv1, _, _, _, _, _, _, hne, hb0, hb1⟩ := laid_sentinels2 h3 gRange tRange gSyn tSyn Tryd.underlying24 row72 Tryd.underlying72 Tryd.underlying74 rfl rfl Tryd.underlying9 cells74 cells9
  exact ⟨a0, a1, hv0, hv1, fun e => hne e.symm, ⟨c0, t0, hb0⟩, ⟨c1, t1, hb1⟩⟩

theorem door_met (os : Os) (args : Array Value) : laidMetH Tryd.prog laid5 ((World.doorLaid Tryd.prog 400 os).forCall (fun _ _ => 0) ⟨#[], args, []⟩).memory :=
  laidMetH_of_parts3 (fuel := 8) (laidMet_of_run' 8 (by kernel_rfl) (by kernel_rfl)) (by kernel_rfl) (by kernel_rfl)
end Go.Proofs.Qxb6614300aDoor
