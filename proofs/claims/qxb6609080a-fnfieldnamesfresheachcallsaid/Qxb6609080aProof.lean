/-
  FnFieldNamesFreshEachCall: THE ROW, every list of strings.
-/
import Derived.Test.Qxb6609080aWalks4
import Derived.ProofKit
import Derived.SliceStrings
import Derived.OpenShut
namespace Go.Proofs.Qxb6609080a.fieldNames
open Go.ChangeShapes Go.WideShapes Go.ChangeAt Go.RowKit

theorem own : ownKnob Try.prog.godebug = none := by kernel_rfl
theorem laidOut : laidOutB Try.prog = true := by kernel_rfl
theorem cells9 : Try.prog.cellsOf 9 = 1 := by kernel_rfl

set_option maxRecDepth 100000 in
theorem lifted (os : Os) (started : os.Started) (H : Type) (enc : TypeId × Value → H) :
    ReturnsInHanded {} Try.checked os 3 .any (Rows.fnFieldNamesFreshEachCallSpec.pre6 enc Try.prog Try.f3 Rows.fnFieldNamesFreshEachCallRow.domain false) (Rows.fnFieldNamesFreshEachCallSpec.post enc Try.prog Try.f3 false true false false) := by
  refine returnsInHanded_of_change (C := Try.checked) own started (by kernel_rfl) Try.func3
    (ChangeSpec.witness6 (enc := enc) (C := Try.checked) false ⟨#[], #[.slice none 0 0], []⟩ 8 (by kernel_rfl) (by kernel_rfl) (by kernel_rfl) (by kernel_rfl)) ?_
  intro W base args ds gs before hval0 hW hcnd _
  have hval : ∀ (j : Nat) t v, Try.f3.params[j]? = some t → args[j]? = some v → Value.okWide Try.prog W .any base t v := hval0
  have hW' := hW
  have hlt0 := hW.lt
  obtain ⟨p, q, hA0, hV, rfl, hfz, hnd⟩ := hW
  have hA : DataW.TrodAll enc Try.prog W 0 (fun _ => true) true Try.f3.params.toList args.toList ds p := hA0
  rw [Try.params3] at hA hval
  obtain ⟨v0, vs0, d0, ds0, p0, q0, hargs, rfl, rfl, h0, r0⟩ := trodAll_cons hA
  obtain ⟨rfl, rfl, rfl⟩ := trodAll_nil r0
  obtain rfl : args = #[v0] := by cases args; simp_all
  obtain ⟨rfl, rfl⟩ := trodVars_none hV
  obtain ⟨a0, len, cap, rfl⟩ := okWide_slice Try.underlying22 (hval 0 22 v0 rfl rfl)
  have h0k := h0
  have hlt : ∀ x ∈ p0, x.block < W.heap.size := fun x hx => hlt0 x (by simp [hx])
  have fin : ∀ (e : Ending) (W' : World), e = .returned (.bool true) ∧ Below W.heap.size W W' → ∃ v, e = .returned v ∧ Rows.fnFieldNamesFreshEachCallSpec.post enc Try.prog Try.f3 false true false false W #[.slice a0 len cap] v W' := by
    rintro e W' ⟨rfl, hb⟩
    exact ⟨_, rfl, _, _, _, [], p0 ++ [], [], hW', trodAll_mk1 (shut_bool Try.underlying4 _), trodAll_cons_mk (hb.trod laidOut (by kernel_rfl) (of_decide_eq_true (by kernel_rfl)) h0k hlt) trodAll_mk0, rfl, hb.frame _, fun h => by cases h⟩
  obtain ⟨fuel, hf⟩ := h0
  rcases open_strings Try.underlying22 Try.underlying9 cells9 hf with ⟨hcs, hx⟩ | ⟨a, len', cap', ss, hcs, _, hl, hm, hz, hx, hcell, hws⟩
  · simp [Value.cells] at hcs
    obtain ⟨rfl, rfl, rfl⟩ := hcs
    exact (law_nil W).mono fin
  · simp [Value.cells] at hcs
    obtain ⟨rfl, rfl, rfl⟩ := hcs
    simp only [if_true] at hz
    obtain ⟨b, off, spot⟩ := a
    have hspot : 0 < len → spot = none := fun h => by simpa [Addr.add] using World.cell?_spot (hcell 0 (by omega))
    refine (law_full ⟨b, off, spot⟩ b off len cap (ss.take len) W (fun h => by rw [hspot h]) (by rw [List.length_take]; omega) (by omega) (fun j x hj => ?_)).mono fin
    have hj' := (List.getElem?_eq_some_iff.1 hj).1
    rw [List.length_take] at hj'
    rw [List.getElem?_take, if_pos (by omega)] at hj
    have := hcell j (by omega)
    rw [hspot (by omega), Addr.add_lit] at this
    rw [this, List.getD_eq_getElem?_getD, hj]; rfl

theorem proved : Rows.FnFieldNamesFreshEachCallSaid :=
  OpenClaim.holds_of_wide 3 Try.f3 rfl rfl rfl rfl rfl rfl rfl ⟨rfl, rfl, rfl, rfl, rfl⟩ rfl rfl rfl rfl rfl (by kernel_rfl) Try.func3 (by kernel_rfl)
    (of_decide_eq_true (by kernel_rfl)) (by unfold Func.isWrapper; first | (rw [if_pos (by decide +kernel)]; kernel_rfl) | (rw [if_neg (by decide +kernel)]; exact ⟨rfl, rfl⟩))
    (fun os started H enc _ => lifted os started H enc)
end Go.Proofs.Qxb6609080a.fieldNames
