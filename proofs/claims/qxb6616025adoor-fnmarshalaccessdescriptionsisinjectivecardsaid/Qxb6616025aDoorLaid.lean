/-
  THE LISTED VARIABLES: what the condition gives the walks.
-/
import Derived.Test.Qxb6616025aDoorWalks8
import Derived.ProofKit
import Derived.LaidMore
import Derived.OpenVars
import Derived.Deep.Strs
namespace Go.Proofs.Qxb6616025aDoor
open Go.ChangeShapes Go.WideShapes Go.ChangeAt Go.RowKit

def laid3 : List (String × DataW Unit) := Rows.fnMarshalAccessDescriptionsIsInjectiveRow.laid
/-- The i-th listed variable's name. -/
def nameAt (i : Nat) : String := (laid3.map (·.1)).getD i ""

theorem own : ownKnob Tryd.prog.godebug = none := by kernel_rfl
theorem laidOut : laidOutB Tryd.prog = true := by kernel_rfl
theorem gSeq : Tryd.prog.globalNamed (nameAt 1) = some 0 := by kernel_rfl
theorem gOid : Tryd.prog.globalNamed (nameAt 0) = some 1 := by kernel_rfl
theorem gIa5 : Tryd.prog.globalNamed (nameAt 2) = some 2 := by kernel_rfl
theorem tSeq : (Tryd.prog.globals[0]?).map (·.type) = some 37 := by kernel_rfl
theorem tOid : (Tryd.prog.globals[1]?).map (·.type) = some 37 := by kernel_rfl
theorem tIa5 : (Tryd.prog.globals[2]?).map (·.type) = some 37 := by kernel_rfl

theorem tag_cells {W : World} {sp : Nat → Bool} {hd : Bool} {enc : TypeId × Value → Unit} {fuel : Nat} {cs : Array Value} {a c : Int} {b : Bool} {p : List MemPlace} (h : DataW.trod enc Tryd.prog W 0 sp hd fuel 37 cs.toList = some (.agg [.lit (.int .u8 a), .lit (.bool b), .lit (.int .u32 c)], p)) :
    cs = #[.int .u8 a, .bool b, .int .u32 c] := by
  have c37 : Tryd.prog.cellsOf 37 = 3 := by kernel_rfl
  have c34 : Tryd.prog.cellsOf 34 = 1 := by kernel_rfl
  have c4 : Tryd.prog.cellsOf 4 = 1 := by kernel_rfl
  have c35 : Tryd.prog.cellsOf 35 = 1 := by kernel_rfl
  obtain ⟨y0, y1, y2, n, hx, hl, h0, h1, h2⟩ := Deep.trod_struct3 Tryd.underlying37 h
  simp only [c34, c4, c35] at h0 h1 h2
  obtain ⟨l⟩ := cs
  rw [c37] at hl
  match l, hl with
  | [x, y, z], _ =>
    obtain ⟨n0, e0, f0, _⟩ := DataW.trod_int Tryd.underlying34 h0
    obtain ⟨n1, e1, f1⟩ := DataW.trod_bool Tryd.underlying4 h1
    obtain ⟨n2, e2, f2, _⟩ := DataW.trod_int Tryd.underlying35 h2
    simp at e0 e1 e2
    subst e0 e1 e2
    simp only [Prod.mk.injEq, DataW.agg.injEq, List.cons.injEq, and_true] at hx
    obtain ⟨⟨g0, g1, g2⟩, _⟩ := hx
    rw [f0] at g0
    rw [f1] at g1
    rw [f2] at g2
    simp at g0 g1 g2
    subst g0 g1 g2
    rfl

theorem tags_of {W : World} (h : laidMetH Tryd.prog laid3 W) : Tags W := by
  rw [MakeChecks.laidMetH_plain _ _ _ (by kernel_rfl)] at h
  obtain ⟨ps, ⟨g1, t1, cs1, f1, p1, q1, hg1, ht1, hv1, hd1, ⟨g0, t0, cs0, f0, p0, q0, hg0, ht0, hv0, hd0, ⟨g2, t2, cs2, f2, p2, q2, hg2, ht2, hv2, hd2, _, _⟩, _⟩, _⟩, _, _⟩ := h
  obtain rfl := Option.some.inj (gSeq.symm.trans hg0)
  obtain rfl := Option.some.inj (gOid.symm.trans hg1)
  obtain rfl := Option.some.inj (gIa5.symm.trans hg2)
  obtain rfl := Option.some.inj (tSeq.symm.trans ht0)
  obtain rfl := Option.some.inj (tOid.symm.trans ht1)
  obtain rfl := Option.some.inj (tIa5.symm.trans ht2)
  obtain rfl := tag_cells hd0
  obtain rfl := tag_cells hd1
  obtain rfl := tag_cells hd2
  have k0 := fun j => World.var?_cell hg0 hv0 j
  have k1 := fun j => World.var?_cell hg1 hv1 j
  have k2 := fun j => World.var?_cell hg2 hv2 j
  exact ⟨k0 0, k0 1, k0 2, k1 0, k1 1, k1 2, k2 0, k2 1, k2 2⟩

theorem door_met (os : Os) (args : Array Value) : laidMetH Tryd.prog laid3 ((World.doorLaid Tryd.prog 400 os).forCall (fun _ _ => 0) ⟨#[], args, []⟩).memory :=
  laidMetH_of_parts3 (fuel := 8) (laidMet_of_run' 8 (by kernel_rfl) (by kernel_rfl)) (by kernel_rfl) (by kernel_rfl)
end Go.Proofs.Qxb6616025aDoor
