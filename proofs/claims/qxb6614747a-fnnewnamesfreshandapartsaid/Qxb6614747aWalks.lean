/-
  THE WALKS of FnNewNamesFreshAndApart.
-/
import Derived.Test.Qxb6614747aRows
import Derived.WalkKit
import Derived.WalkSpells
import Derived.WalkLawsBesides
import Derived.Maps.OwnSet
import Derived.Maps.StringElems
import Derived.LaidEqlPtr
namespace Go.Proofs.Qxb6614747a
open Go.RowKit Go.Maps Go.WideMaps Go.ChangeMaps

theorem law : Keyed Try.prog 9 := string_keyed Try.underlying9
theorem zero9 (w : World) : (zeroValue 9).run Try.prog w = .ok (.string ByteArray.empty) w := by kernel_rfl

theorem cell_b {w w' : World} (hb : Below w.heap.size w w') {a : Addr} {v : Value} (h : w.cell? a = some v) : w'.cell? a = some v :=
  (hb.cell (World.block_lt_of_cell? _ _ h)).trans h

set_option maxHeartbeats 400000 in
set_option maxRecDepth 100000 in
theorem bytes_any (k v : ByteArray) (w : World) (hk : k.size ≤ maxLen) (hv : v.size ≤ maxLen) : Calls Try.prog 4 #[.string k, .string v] w fun e w' => ∃ b, e = .returned (.bool b) ∧ w' = w := by
  unfold maxLen at hk hv
  go_enter Try.func4, Try.ntmps4
  go_wp2
  all_goals
    go_ret
    exact ⟨_, rfl, rfl⟩

/-- A new names value: its struct's block p, its map's block m. -/
structure Names (w : World) (p m : Nat) : Prop where
  blk : w.heap[p]? = some (.cells #[.map (some m), .pointer none, .slice none 0 0] 34 (0, 0))

theorem Names.c0 {w : World} {p m : Nat} (h : Names w p m) : w.cell? ⟨p, 0, none⟩ = some (.map (some m)) := by rw [cell_of_row w p 0 _ 34 (0, 0) h.blk]; rfl
theorem Names.c2 {w : World} {p m : Nat} (h : Names w p m) : w.cell? ⟨p, 2, none⟩ = some (.slice none 0 0) := by rw [cell_of_row w p 2 _ 34 (0, 0) h.blk]; rfl
theorem Names.lt {w : World} {p m : Nat} (h : Names w p m) : p < w.heap.size := (Array.getElem?_eq_some_iff.1 h.blk).1
theorem Names.below {w w' : World} {p m : Nat} (h : Names w p m) (hb : Below w.heap.size w w') : Names w' p m := ⟨by rw [hb.block p h.lt]; exact h.blk⟩
theorem Names.grown {w w' : World} {p m r : Nat} (h : Names w p m) (hg : w.grownBy w' (some r)) (hr : p ≠ r) : Names w' p m := ⟨by rw [hg.block p h.lt (by simpa using hr)]; exact h.blk⟩

theorem size34 : (Try.prog.info? 34).map (·.size) = some 3 := by kernel_rfl

set_option maxHeartbeats 400000 in
set_option maxRecDepth 100000 in
theorem new_any (w : World) : Calls Try.prog 8 #[] w fun e w' => e = .returned (.pointer (some ⟨w.heap.size + 1, 0, none⟩)) ∧ Names w' (w.heap.size + 1) w.heap.size ∧ w'.heap[w.heap.size]? = some (.map #[] 0) ∧ Below w.heap.size w w' ∧ w.heap.size + 1 < w'.heap.size := by
  have hmm := @run_makeMap Try.prog
  go_enter Try.func8, Try.ntmps8
  go_wp2
  go_ret
  refine ⟨rfl, ⟨?_⟩, ?_, ((Below.refl _ _).alloc (Nat.le_refl _) _).alloc (by simp) _, by simp⟩
  · have := heap_alloc_new (w.alloc (.map #[] 0)) (.cells #[.map (some w.heap.size), .pointer none, .slice none 0 0] 34)
    rwa [World.size_alloc] at this
  · exact (Below.heap_alloc (w.alloc (.map #[] 0)) _ w.heap.size (by simp)).trans (heap_alloc_new w _)

set_option maxHeartbeats 400000 in
theorem zz_new (w : World) : Calls Try.prog 5 #[] w fun e w' => e = .returned (.pointer (some ⟨w.heap.size + 1, 0, none⟩)) ∧ Names w' (w.heap.size + 1) w.heap.size ∧ w'.heap[w.heap.size]? = some (.map #[] 0) ∧ Below w.heap.size w w' ∧ w.heap.size + 1 < w'.heap.size := by
  go_enter Try.func5, Try.ntmps5
  go_wp2_with fail
  refine (new_any w).mono ?_
  rintro e w1 ⟨rfl, hn, hm, hb, hs⟩
  go_wp2
  go_ret
  exact ⟨rfl, hn, hm, hb, hs⟩

set_option maxHeartbeats 400000 in
theorem shared_any (w : World) (p m : Nat) (h : Names w p m) : Calls Try.prog 6 #[.pointer (some ⟨p, 0, none⟩)] w fun e w' => e = .returned (.map (some m)) ∧ w' = w := by
  have c0 := h.c0
  go_enter Try.func6, Try.ntmps6
  go_wp2
  go_ret
  exact ⟨rfl, rfl⟩

set_option maxHeartbeats 400000 in
theorem blen_any (w : World) (p : Nat) (c2 : w.cell? ⟨p, 2, none⟩ = some (.slice none 0 0)) : Calls Try.prog 9 #[.pointer (some ⟨p, 1, none⟩)] w fun e w' => e = .returned (.int .i64 0) ∧ w' = w := by
  go_enter Try.func9, Try.ntmps9
  go_wp2
  go_ret
  exact ⟨rfl, rfl⟩

set_option maxHeartbeats 400000 in
theorem chunk_any (w : World) (p m : Nat) (h : Names w p m) : Calls Try.prog 7 #[.pointer (some ⟨p, 0, none⟩)] w fun e w' => e = .returned (.int .i64 0) ∧ w' = w := by
  have hb := blen_any w p h.c2
  go_enter Try.func7, Try.ntmps7
  go_wp2_with fail
  refine hb.mono ?_
  rintro e w1 ⟨rfl, rfl⟩
  go_wp2
  go_ret
  exact ⟨rfl, rfl⟩

theorem owns_empty {w : World} {m : Nat} (h : w.heap[m]? = some (.map #[] 0)) : w.ownsMap Try.prog 9 (plainElem (H := Unit) Try.prog 9) m 0 (.map []) :=
  ⟨#[], 0, h, ⟨by simp, MapKept.stamped_empty 0, by simp⟩, Nat.le_refl _, rfl⟩

def keyOfS (k : ByteArray) : Lit := .string k.data.toList
def putD (k v : ByteArray) : DataW Unit := (DataW.map []).put (keyOfS k) (.lit (.string v.data.toList))

theorem put_size (k v : ByteArray) : Maps.size (putD k v) = 1 := by
  simp [putD, Maps.size, DataW.put, DataW.insert]
theorem key_lit {k : ByteArray} : WideAt.IsKeyLit (keyOfS k) := by
  unfold keyOfS
  simp [WideAt.IsKeyLit]

theorem put_has (k v : ByteArray) : Maps.has (putD k v) (keyOfS k) = true := by
  exact Maps.has_put_same ⟨_, rfl⟩ key_lit _

theorem look_put {w : World} {m : Nat} {k v : ByteArray} (hk : k.size ≤ maxLen) (h : w.ownsMap Try.prog 9 (plainElem (H := Unit) Try.prog 9) m 1 (putD k v)) :
    (Instr.lookup 25 (.map (some m)) (.string k) true).run Try.prog w = .ok (.tuple #[.string v, .bool true]) w := by
  obtain ⟨u, ps, hrun, hu⟩ := h.look_ok law Try.underlying25 (zero9 w) (plainElem_string Try.underlying9 (by decide)) (keyOf_string_mk Try.underlying9 hk)
  obtain ⟨s, rfl, hz, _⟩ := plainElem_string_inv Try.underlying9 hu
  have e := (Prod.mk.inj hz).1
  rw [show (Lit.string k.data.toList) = keyOfS k from rfl, putD, Maps.atKey_put_same ⟨_, rfl⟩ key_lit] at e
  have e2 : v.data.toList = s.data.toList := by simpa using e
  have e3 : s = v := by
    cases s; cases v
    simp only at e2
    rw [Array.toList_inj.1 e2]
  subst e3
  rw [show (Lit.string k.data.toList) = keyOfS k from rfl, put_has] at hrun
  exact hrun

theorem look_empty {w : World} {m : Nat} {k : ByteArray} (hk : k.size ≤ maxLen) (h : w.ownsMap Try.prog 9 (plainElem (H := Unit) Try.prog 9) m 0 (.map [])) :
    ∃ s, (Instr.lookup 25 (.map (some m)) (.string k) true).run Try.prog w = .ok (.tuple #[.string s, .bool false]) w := by
  obtain ⟨u, ps, hrun, hu⟩ := h.look_ok law Try.underlying25 (zero9 w) (plainElem_string Try.underlying9 (by decide)) (keyOf_string_mk Try.underlying9 hk)
  obtain ⟨s, rfl, hz, _⟩ := plainElem_string_inv Try.underlying9 hu
  exact ⟨s, hrun⟩

set_option maxHeartbeats 1000000 in
set_option maxRecDepth 100000 in
theorem law_walk (k v : ByteArray) (w : World) (hk : k.size ≤ maxLen) (hv : v.size ≤ maxLen) :
    Calls Try.prog 3 #[.string k, .string v] w fun e w' => e = .returned (.bool true) ∧ Below w.heap.size w w' := by
  have hbd := bytes_any k v w hk hv
  by_cases hs : k.size ≤ 1048576 ∧ v.size ≤ 1048576 ∧ k.size + v.size ≤ 1048576
  · obtain ⟨h1, h2, h3⟩ := hs
    have HK := (show Hid _ from hk)
    have HV := (show Hid _ from hv)
    clear hk hv
    go_enter Try.func3, Try.ntmps3
    go_wp2_with fail
    refine hbd.mono ?_
    rintro e w0 ⟨b, rfl, rfl⟩
    clear hbd
    cases b
    · go_wp2
      go_ret
      exact ⟨rfl, Below.refl _ _⟩
    · go_wp2_with fail
      refine (zz_new w0).mono ?_
      rintro e w1 ⟨rfl, n1, m1, hb1, hs1⟩
      go_wp2_with fail
      refine (zz_new w1).mono ?_
      rintro e w2 ⟨rfl, n2, m2, hb2, hs2⟩
      have n1' := n1.below hb2
      have m1' : w2.heap[w0.heap.size]? = some (.map #[] 0) := (hb2.block _ (by omega)).trans m1
      obtain ⟨j, hj, hsz⟩ := Option.map_eq_some_iff.1 size34
      have hpp := run_eql_ptr_other (P := Try.prog) w2 (a := ⟨w0.heap.size + 1, 0, none⟩) (b := ⟨w1.heap.size + 1, 0, none⟩) Try.underlying23 hj (by omega) (by intro e; have := congrArg Addr.block e; simp at this; omega) n1'.blk n2.blk
      have hq1 := run_eql_map_nil (P := Try.prog) w2 25 9 9 (some w0.heap.size) Try.underlying25
      have hq2 := run_eql_map_nil (P := Try.prog) w2 25 9 9 (some w1.heap.size) Try.underlying25
      go_wp2_with fail
      refine (shared_any w2 _ _ n1').mono ?_
      rintro e w3 ⟨rfl, rfl⟩
      go_wp2_with fail
      refine (shared_any w3 _ _ n2).mono ?_
      rintro e w4 ⟨rfl, rfl⟩
      have o1 := owns_empty m1'
      have o2 := owns_empty m2
      have l1 := o1.len Try.underlying25 3
      have l2 := o2.len Try.underlying25 3
      have hc1 := chunk_any w4 _ _ n1'
      have hc2 := chunk_any w4 _ _ n2
      go_wp2_with fail
      refine hc1.mono ?_
      rintro e w5 ⟨rfl, rfl⟩
      go_wp2_with fail
      refine hc2.mono ?_
      rintro e w6 ⟨rfl, rfl⟩
      clear hc1 hc2 l1 l2 hq1 hq2 hpp
      go_wp2_with (at_mapUpdate; refine wpList_mapUpdate_own _ rfl _ _ _ 25 rfl 9 9 law Try.underlying25 _ w0.heap.size 0 _ rfl o1 (by unfold maxLen; omega) _ _ _ rfl rfl (keyOf_string_mk Try.underlying9 HK.out) _ [] (plainElem_string Try.underlying9 HV.out) ?_)
      intro w7 o1' hg
      have o1n : w7.ownsMap Try.prog 9 (plainElem (H := Unit) Try.prog 9) w0.heap.size 1 (putD k v) := o1'
      have o2n := o2.kept hg (by simp; omega)
      have n1n := n1'.grown hg (by omega)
      have n2n := n2.grown hg (by omega)
      have k1 := look_put HK.out o1n
      obtain ⟨s, k2⟩ := look_empty HK.out o2n
      have l1 := o1n.len Try.underlying25 3
      have l2 := o2n.len Try.underlying25 3
      rw [put_size] at l1
      have hB7 : Below w0.heap.size w0 w7 := (hb1.trans (hb2.mono hb1.size)).grown hg (Nat.le_trans hb1.size hb2.size) (fun j hj => by cases hj; exact Nat.le_refl _)
      have s1 := shared_any w7 _ _ n1n
      have s2 := shared_any w7 _ _ n2n
      clear o1' o1 o2 hg m1 m2 m1' n1 n2 n1'
      go_wp2_with fail
      refine s1.mono ?_
      rintro e w8 ⟨rfl, rfl⟩
      go_wp2_with fail
      refine s2.mono ?_
      rintro e w9 ⟨rfl, rfl⟩
      go_wp2_with fail
      refine s2.mono ?_
      rintro e w10 ⟨rfl, rfl⟩
      go_wp2_with fail
      refine s1.mono ?_
      rintro e w11 ⟨rfl, rfl⟩
      go_wp2
      go_ret
      exact ⟨rfl, hB7⟩
  · unfold maxLen at hk hv
    go_enter Try.func3, Try.ntmps3
    go_wp2_with fail
    refine hbd.mono ?_
    rintro e w0 ⟨b, rfl, rfl⟩
    clear hbd
    cases b
    · go_wp2
      go_ret
      exact ⟨rfl, Below.refl _ _⟩
    · rcases (show (¬ k.size ≤ 1048576) ∨ (k.size ≤ 1048576 ∧ ¬ v.size ≤ 1048576) ∨ (k.size ≤ 1048576 ∧ v.size ≤ 1048576 ∧ ¬ k.size + v.size ≤ 1048576) by omega) with h | ⟨h1, h⟩ | ⟨h1, h2, h⟩
      all_goals
        clear hs
        go_wp2
        go_ret
        exact ⟨rfl, Below.refl _ _⟩
end Go.Proofs.Qxb6614747a
