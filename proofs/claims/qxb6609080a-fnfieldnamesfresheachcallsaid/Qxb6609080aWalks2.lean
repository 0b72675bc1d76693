/-
  THE WALKS, 2: fieldNames, ZZfieldNames.
-/
import Derived.Test.Qxb6609080aWalks1
namespace Go.Proofs.Qxb6609080a
open Go.RowKit

/-- The slice value v holds the strings S in w. -/
def HoldsS (w : World) (v : Value) (S : List ByteArray) : Prop :=
  (v = .slice none 0 0 ∧ S = []) ∨ ∃ ad c, v = .slice (some ad) S.length c ∧ ∀ j u, (S.map Value.string)[j]? = some u → w.cell? (ad.add j) = some u

theorem HoldsS.below {w w' : World} {v : Value} {S : List ByteArray} (h : HoldsS w v S) (hb : Below w.heap.size w w') : HoldsS w' v S := by
  rcases h with h | ⟨ad, c, hv, hc⟩
  · exact .inl h
  · exact .inr ⟨ad, c, hv, fun j u hj => cell_b hb (hc j u hj)⟩

theorem strs_oneCell (S : List ByteArray) : ∀ u ∈ S.map Value.string, u.oneCell' = true := by
  intro u hu
  obtain ⟨_, _, rfl⟩ := List.mem_map.1 hu
  rfl

/-- The bytes of date. -/
def date : ByteArray := { data := #[100, 97, 116, 101] }

theorem own_date (w : World) (o : Obj) : ((w.alloc o).alloc (.cells #[.string date] 9)).ownsRow w.heap.size 9 1 (.slice (some ⟨w.heap.size + 1, 0, none⟩) 1 1) 1 [.string date] := by
  have := World.ownsRow_lit (base := w.heap.size) (e := 9) (size := 1) (w.alloc o) #[.string date] 1 (by simp) (by decide) rfl
  rwa [World.size_alloc] at this

set_option maxHeartbeats 400000 in
set_option maxRecDepth 100000 in
theorem names_any (v : Value) (S : List ByteArray) (w : World) (h : HoldsS w v S) (hl : S.length ≤ 65536) :
    Calls Try.prog 7 #[.agg #[v, .nilFunc, .nilFunc]] w fun e w' => ∃ v', e = .returned v' ∧ w'.ownsRow w.heap.size 9 1 v' (S.length + 1) ((date :: S).map Value.string) ∧ Below w.heap.size w w' := by
  obtain ⟨i0, hi, hz0, hz1, hz2⟩ := info_parts Try.info9
  rcases h with ⟨rfl, rfl⟩ | ⟨ad, c, rfl, hc⟩
  · go_enter Try.func7, Try.ntmps7
    go_wp2_with fail
    go_ret
    refine ⟨_, rfl, ?_, ((Below.refl _ _).alloc (Nat.le_refl _) _).alloc (by simp) _⟩
    exact own_date _ _
  · have hb1 : Below w.heap.size w ((w.alloc (.cells #[.slice (some ad) S.length c, .nilFunc, .nilFunc] 28)).alloc (.cells #[.string date] 9)) := ((Below.refl _ _).alloc (Nat.le_refl _) _).alloc (by simp) _
    have hown : ((w.alloc (.cells #[.slice (some ad) S.length c, .nilFunc, .nilFunc] 28)).alloc (.cells #[.string date] 9)).ownsRow w.heap.size 9 1 (.slice (some ⟨w.heap.size + 1, 0, none⟩) 1 1) 1 [.string date] :=
      own_date _ _
    have hc' : ∀ j u, (S.map Value.string)[j]? = some u → ((w.alloc (.cells #[.slice (some ad) S.length c, .nilFunc, .nilFunc] 28)).alloc (.cells #[.string date] 9)).cell? (ad.add j) = some u := fun j u hj => cell_b hb1 (hc j u hj)
    have H1 := (show Hid _ from hb1)
    have H2 := (show Hid _ from hown)
    have H3 := (show Hid _ from hc')
    clear hb1 hown hc' hc
    go_enter Try.func7, Try.ntmps7
    go_wp2_with (at_builtin; refine wpList_append_own _ rfl (.tmp 3) (.tmp 5) 22 rfl w.heap.size 9 i0 (.string ByteArray.empty) 1 16 Try.underlying22 hi hz0 hz1 hz2 rfl (by decide) _ _ _ rfl H2.out ad S.length c (S.map Value.string) rfl (by simp) H3.out (strs_oneCell S) ?c3 ?c4 ?c5 ?_)
    case c3 => unfold maxLen; omega
    case c4 => omega
    case c5 => have := H1.out.size; exact this
    intro v' w1 hown' hgrow _
    go_wp2
    go_ret
    rw [Nat.add_comm] at hown'
    exact ⟨v', rfl, hown', H1.out.grown hgrow H1.out.size (fun k hk => by simp [Value.ownBlock] at hk; omega)⟩

set_option maxHeartbeats 400000 in
set_option maxRecDepth 100000 in
theorem zz_any (v : Value) (S : List ByteArray) (w : World) (h : HoldsS w v S) (hl : S.length ≤ 65536) :
    Calls Try.prog 6 #[v] w fun e w' => ∃ v', e = .returned v' ∧ w'.ownsRow w.heap.size 9 1 v' (S.length + 1) ((date :: S).map Value.string) ∧ Below w.heap.size w w' := by
  have hn := names_any v S w h hl
  obtain ⟨a, n, c, rfl⟩ : ∃ a n c, v = .slice a n c := by
    rcases h with ⟨rfl, _⟩ | ⟨ad, c, rfl, _⟩
    · exact ⟨_, _, _, rfl⟩
    · exact ⟨_, _, _, rfl⟩
  clear h
  go_enter Try.func6, Try.ntmps6
  go_wp2_with fail
  refine hn.mono ?_
  rintro e w1 ⟨v', rfl, hown, hb⟩
  go_wp2
  go_ret
  exact ⟨v', rfl, hown, hb⟩
end Go.Proofs.Qxb6609080a
