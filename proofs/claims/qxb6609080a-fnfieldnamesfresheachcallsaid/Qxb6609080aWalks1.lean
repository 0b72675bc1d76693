/-
  THE WALKS, 1: zzBytes, stringsFit, fieldNames, ZZfieldNames.
-/
import Derived.Test.Qxb6609080aRows
import Derived.WalkKit
import Derived.WalkSpells
import Derived.WalkLawsBesides
import Derived.Laws.AppendOwnNone
import Derived.Laws.CopyOwn
namespace Go.Proofs.Qxb6609080a
open Go.RowKit

theorem Try.info9 : (Try.prog.info? 9).map (fun i => (i.zero, i.size, i.bytes)) = some (some (.string ByteArray.empty), 1, 16) := by kernel_rfl

theorem cell_b {w w' : World} (hb : Below w.heap.size w w') {a : Addr} {v : Value} (h : w.cell? a = some v) : w'.cell? a = some v :=
  (hb.cell (World.block_lt_of_cell? _ _ h)).trans h

def AllSmall (S : List ByteArray) : Prop := ∀ (j : Nat) (x : ByteArray), S[j]? = some x → x.size ≤ 1048576

/-- It answers some bool and turns nothing; where the bool is true, 'p'. -/
def Bools (p : Prop) (w : World) (e : Ending) (w' : World) : Prop := ∃ q, e = .returned (.bool q) ∧ w' = w ∧ (q = true → p)
theorem Bools.no {p : Prop} {w : World} : Bools p w (.returned (.bool false)) w := ⟨false, rfl, rfl, fun e => by cases e⟩
theorem Bools.yes {p : Prop} {w : World} (h : p) : Bools p w (.returned (.bool true)) w := ⟨true, rfl, rfl, fun _ => h⟩

set_option maxHeartbeats 400000 in
set_option maxRecDepth 100000 in
theorem bytes_any (ao : Option Addr) (b off n cap : Nat) (S : List ByteArray) (w : World) (hn : S.length = n) (hm : n ≤ maxLen) (hao : 0 < n → ao = some ⟨b, off, none⟩)
    (hc : ∀ j x, S[j]? = some x → w.cell? ⟨b, off + j, none⟩ = some (.string x)) :
    Calls Try.prog 4 #[.slice ao n cap] w (Bools (AllSmall S) w) := by
  unfold maxLen at hm
  by_cases h0 : n ≤ 1048576
  · go_enter Try.func4, Try.ntmps4
    go_wp2
    go_loop [3, 4] (fun z i => ∃ (k : Nat) (y : Int), k ≤ n ∧ i = .int .i64 k ∧ z = .int .i64 y ∧ ∀ (j : Nat) (x : ByteArray), j < k → S[j]? = some x → x.size ≤ 1048576) (fun _ i => n - (intOf i).toNat)
    case atStart => exact ⟨0, _, Nat.zero_le _, rfl, rfl, fun j x h => absurd h (by omega)⟩
    case round =>
      obtain ⟨k, y, hk, rfl, rfl, hx⟩ := hrel
      have HX := (show Hid _ from hx)
      clear hx
      by_cases hlt : k < n
      · obtain ⟨x, hs⟩ : ∃ x, S[k]? = some x := ⟨S[k]'(by omega), List.getElem?_eq_getElem _⟩
        obtain rfl := hao (by omega)
        have hck := hc k x hs
        have HS := (show Hid _ from hs)
        have HC := (show Hid _ from hc)
        have hI : (k : Int) < (n : Int) := by omega
        clear hs hc hao
        by_cases h1 : x.size ≤ 1048576
        · have HN : Hid (∀ (j : Nat) (x : ByteArray), j < k + 1 → S[j]? = some x → x.size ≤ 1048576) := by
            intro j z hj hz
            by_cases e : j = k
            · subst e
              have : z = x := Option.some.inj (hz.symm.trans HS.out)
              rw [this]; exact h1
            · exact HX.out j z (by omega) hz
          go_wp2
          · go_ret
            exact Bools.no
          · go_round
            case rel => exact ⟨k + 1, _, by omega, by go_num, rfl, HN.out⟩
            case measure => simp [intOf]; omega
        · go_wp2
          go_ret
          exact Bools.no
      · clear hc hao
        go_wp2
        go_ret
        exact Bools.yes fun j x h => HX.out j x (by have := (List.getElem?_eq_some_iff.1 h).1; omega) h
  · go_enter Try.func4, Try.ntmps4
    go_wp2
    go_ret
    exact Bools.no

set_option maxHeartbeats 400000 in
set_option maxRecDepth 100000 in
theorem fit_any (ao : Option Addr) (b off n cap : Nat) (S : List ByteArray) (w : World) (hn : S.length = n) (hm : n ≤ 65536) (hao : 0 < n → ao = some ⟨b, off, none⟩)
    (hc : ∀ j x, S[j]? = some x → w.cell? ⟨b, off + j, none⟩ = some (.string x)) :
    Calls Try.prog 5 #[.slice ao n cap] w (Bools True w) := by
  go_enter Try.func5, Try.ntmps5
  go_wp2
  go_loop [3, 4] (fun z i => ∃ (k : Nat) (y : Int), k ≤ n ∧ i = .int .i64 k ∧ z = .int .i64 y) (fun _ i => n - (intOf i).toNat)
  case atStart => exact ⟨0, _, Nat.zero_le _, rfl, rfl⟩
  case round =>
    obtain ⟨k, y, hk, rfl, rfl⟩ := hrel
    by_cases hlt : k < n
    · obtain ⟨x, hs⟩ : ∃ x, S[k]? = some x := ⟨S[k]'(by omega), List.getElem?_eq_getElem _⟩
      obtain rfl := hao (by omega)
      have hck := hc k x hs
      have hI : (k : Int) < (n : Int) := by omega
      clear hs hc hao
      go_wp2
      · go_ret
        exact Bools.no
      · go_round
        case rel => exact ⟨k + 1, _, by omega, by go_num, rfl⟩
        case measure => simp [intOf]; omega
    · clear hc hao
      go_wp2
      go_ret
      exact Bools.yes trivial
end Go.Proofs.Qxb6609080a
