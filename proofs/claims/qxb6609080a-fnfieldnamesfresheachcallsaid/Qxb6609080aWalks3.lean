/-
  THE WALKS, 3: the law FnFieldNamesFreshEachCall at a nil list; what a call of ZZfieldNames gives.
-/
import Derived.Test.Qxb6609080aPlain
import Derived.Deep.QuietTactic
import Derived.BigQuiet
namespace Go.Proofs.Qxb6609080a
open Go.RowKit

theorem size9 : (Try.prog.info? 9).map (·.size) = some 1 := by kernel_rfl

theorem zz_nil (w : World) : Calls Try.prog 6 #[.slice none 0 0] w fun e w' => ∃ g c, e = .returned (.slice (some ⟨g, 0, none⟩) 1 c) ∧ w.heap.size ≤ g ∧ w'.cell? ⟨g, 0, none⟩ = some (.string date) ∧ w'.frozen? ⟨g, 0, none⟩ = false ∧ Below w.heap.size w w' := by
  refine (zz_any _ [] w (.inl ⟨rfl, rfl⟩) (by simp)).mono ?_
  rintro e w' ⟨v, rfl, ho, hb⟩
  obtain ⟨g, c, rfl, h1, _⟩ := own_form (n := 0) ho
  have hc := ho.cellAt 0 (by simp)
  exact ⟨g, c, rfl, h1, by simpa using hc, ho.frozenAt 0, hb⟩

set_option maxHeartbeats 2000000 in
set_option maxRecDepth 100000 in
theorem law_nil (w : World) : Calls Try.prog 3 #[.slice none 0 0] w fun e w' => e = .returned (.bool true) ∧ Below w.heap.size w w' := by
  have hne := fun w => run_neq_slice_nil_any (P := Try.prog) w 22 9 none 0 0 0 0 Try.underlying22
  have hz := bytes_any none 0 0 0 0 [] w rfl (Nat.zero_le _) (fun h => absurd h (by omega)) (fun j x h => by simp at h)
  have hf := fit_any none 0 0 0 0 [] w rfl (Nat.zero_le _) (fun h => absurd h (by omega)) (fun j x h => by simp at h)
  go_enter Try.func3, Try.ntmps3
  go_wp2_with fail
  refine hz.mono ?_
  rintro e w1 ⟨q, rfl, rfl, -⟩
  cases q
  · go_wp2
    go_ret
    exact ⟨rfl, Below.refl _ _⟩
  go_wp2_with fail
  refine hf.mono ?_
  rintro e w2 ⟨q, rfl, rfl, -⟩
  clear hz hf
  cases q
  · go_wp2
    go_ret
    exact ⟨rfl, Below.refl _ _⟩
  go_wp2_with fail
  refine (zz_nil w2).mono ?_
  rintro e w3 ⟨g1, c1, rfl, h1, hc1, hf1, hb1⟩
  have hd : date.size ≤ 4 := by decide
  go_wp2
  refine wp_loop_rounds 2 ?_
  rw [rounds_succ]
  go_wp2
  rw [rounds_succ]
  go_wp2_with fail
  refine (zz_nil _).mono ?_
  rintro e w4 ⟨g2, c2, rfl, h2, hc2, hf2, hb2⟩
  have hg1 : g1 < w3.heap.size := World.block_lt_of_cell? _ _ hc1
  have hbs : Below w2.heap.size w2 w4 := (hb1.setCell (p := ⟨g1, 0, none⟩) h1 _).trans (hb2.mono (by simp; exact hb1.size))
  have k1 : w4.cell? ⟨g1, 0, none⟩ = some (.string { data := #[100, 97, 116, 101, 35] }) := by
    rw [← date_sign]
    exact cell_b hb2 (World.cell?_setCell_same _ _ _ hc1)
  clear hb1 hb2 hc1 hf1 hf2
  unfold date at hc2
  go_wp2
  refine wp_loop_rounds 1 ?_
  rw [rounds_succ]
  go_wp2
  go_ret
  exact ⟨rfl, hbs⟩
end Go.Proofs.Qxb6609080a
