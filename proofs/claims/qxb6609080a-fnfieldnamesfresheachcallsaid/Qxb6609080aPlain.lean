/-
  THE PLAIN PART: strings with a sign behind each; rows.
-/
import Derived.Test.Qxb6609080aWalks2
namespace Go.Proofs.Qxb6609080a
open Go.RowKit

/-- The sign that the law writes behind each name. -/
def sign : ByteArray := { data := #[35] }

/-- The first k strings with the sign behind them, the others as they are. -/
def marked (k : Nat) (L : List ByteArray) : List ByteArray := (L.take k).map (· ++ sign) ++ L.drop k

theorem marked_zero (L : List ByteArray) : marked 0 L = L := by simp [marked]
theorem marked_len (k : Nat) (L : List ByteArray) : (marked k L).length = L.length := by simp [marked]; omega
theorem marked_at (k j : Nat) (L : List ByteArray) (x : ByteArray) (h : L[j]? = some x) : (marked k L)[j]? = some (if j < k then x ++ sign else x) := by
  have hj : j < L.length := (List.getElem?_eq_some_iff.1 h).1
  unfold marked
  by_cases hk : j < k
  · rw [List.getElem?_append_left (by simp; omega), List.getElem?_map, List.getElem?_take, if_pos hk, h, if_pos hk]; rfl
  · rw [List.getElem?_append_right (by simp; omega), if_neg hk, List.length_map, List.length_take, List.getElem?_drop]
    rw [show k + (j - min k L.length) = j by omega, h]

theorem marked_step (k : Nat) (L : List ByteArray) (x : ByteArray) (h : L[k]? = some x) : ((marked k L).map Value.string).set k (.string (x ++ sign)) = (marked (k + 1) L).map Value.string := by
  have hk : k < L.length := (List.getElem?_eq_some_iff.1 h).1
  apply List.ext_getElem?
  intro j
  rw [List.getElem?_set]
  by_cases e : k = j
  · subst e
    rw [if_pos rfl, if_pos (by rw [List.length_map, marked_len]; exact hk), List.getElem?_map, marked_at (k + 1) k L x h, if_pos (by omega)]; rfl
  · rw [if_neg e, List.getElem?_map, List.getElem?_map]
    cases hx : L[j]? with
    | none =>
      have hj : L.length ≤ j := List.getElem?_eq_none_iff.1 hx
      rw [List.getElem?_eq_none (by rw [marked_len]; exact hj), List.getElem?_eq_none (by rw [marked_len]; exact hj)]
    | some y =>
      rw [marked_at k j L y hx, marked_at (k + 1) j L y hx]
      by_cases h1 : j < k
      · rw [if_pos h1, if_pos (by omega)]
      · rw [if_neg h1, if_neg (by omega)]

theorem own_form {w : World} {base n : Nat} {v : Value} {xs : List Value} (h : w.ownsRow base 9 1 v (n + 1) xs) : ∃ g c, v = .slice (some ⟨g, 0, none⟩) (n + 1) c ∧ base ≤ g ∧ g < w.heap.size := by
  rcases h.2 with ⟨_, e⟩ | ⟨g, c, cur, rfl, hb, hg, _⟩
  · omega
  · exact ⟨g, c, rfl, hb, (Array.getElem?_eq_some_iff.1 hg).1⟩

theorem own_below {w w' : World} {base n : Nat} {v : Value} {xs : List Value} (h : w.ownsRow base 9 1 v n xs) (hb : Below w.heap.size w w') : w'.ownsRow base 9 1 v n xs := by
  refine ⟨h.1, ?_⟩
  rcases h.2 with hn | ⟨g, c, cur, rfl, hbg, hg, rest⟩
  · exact .inl hn
  · exact .inr ⟨g, c, cur, rfl, hbg, by rw [hb.block g (Array.getElem?_eq_some_iff.1 hg).1]; exact hg, rest⟩

/-- A row made whole: its block. -/
theorem full_row {w : World} {base g n : Nat} {xs : List Value} (h : w.ownsRow base 9 1 (.slice (some ⟨g, 0, none⟩) n n) n xs) : w.heap[g]? = some (.cells xs.toArray 9 (0, 0)) := by
  rcases h.2 with ⟨e, _⟩ | ⟨g', c, cur, e, _, hg, _, _, hs, ht⟩
  · cases e
  · simp only [Value.slice.injEq, Option.some.injEq, Addr.mk.injEq, and_true, true_and] at e
    obtain ⟨rfl, rfl⟩ := e
    rw [List.take_of_length_le (by rw [Array.length_toList, hs]; exact Nat.le_refl _)] at ht
    rw [← ht]
    exact hg

theorem row_holds {w : World} {g : Nat} {S : List ByteArray} (h : w.heap[g]? = some (.cells (S.map Value.string).toArray 9 (0, 0))) : HoldsS w (.slice (some ⟨g, 0, none⟩) S.length S.length) S := by
  refine .inr ⟨_, _, rfl, fun j u hj => ?_⟩
  rw [Addr.add_lit, Nat.zero_add, cell_of_row w g j _ 9 (0, 0) h]
  simpa using hj

theorem splice_all {Z X : List Value} (h : X.length = Z.length) : splice Z 0 X = X := by
  simp [splice, h]

theorem date_sign : date ++ sign = { data := #[100, 97, 116, 101, 35] } := by decide

end Go.Proofs.Qxb6609080a
