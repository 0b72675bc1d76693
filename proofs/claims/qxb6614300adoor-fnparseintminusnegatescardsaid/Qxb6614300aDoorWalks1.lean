/-
  THE WALKS, 1: smallDecimal, zzDigits.
-/
import Derived.Test.Qxb6614300aDoorPlain
import Derived.Test.Qxb6614300aDoorIs
namespace Go.Proofs.Qxb6614300aDoor
open Go.RowKit

theorem size_len (s : ByteArray) : s.data.toList.length = s.size := Array.length_toList

/-- The byte at k, as an op of the walk. -/
theorem byte_at {s : ByteArray} {k : Nat} (h : k < s.size) : ∃ c : UInt8, s.data.toList[k]? = some c ∧ (∀ w, (Instr.index 9 (.string s) (.int .i64 (k : Int))).run Tryd.prog w = .ok (.int .u8 (c.toNat : Int)) w) ∧ 0 ≤ (c.toNat : Int) ∧ (c.toNat : Int) ≤ 255 := by
  refine ⟨s[k], ?_, fun w => ?_, by omega, by have := s[k].toNat_lt; omega⟩
  · rw [List.getElem?_eq_getElem (by rw [size_len]; exact h)]
    rfl
  · rw [run_index_string w 9 s .i64 k Tryd.underlying9, dif_pos ⟨by omega, by omega⟩]
    rfl

/-- The number so far, of at most nine digits. -/
def Small (l : List UInt8) (k : Nat) (a : Int) : Prop := Sofar l k a ∧ a < 10 ^ k

theorem Small.bounds {l : List UInt8} {k : Nat} {a : Int} (h : Small l k a) (hk : k ≤ 9) : 0 ≤ a ∧ a ≤ 999999999 := by
  obtain ⟨h1, h2⟩ := h
  refine ⟨h1.bounds.1, ?_⟩
  have : k = 0 ∨ k = 1 ∨ k = 2 ∨ k = 3 ∨ k = 4 ∨ k = 5 ∨ k = 6 ∨ k = 7 ∨ k = 8 ∨ k = 9 := by omega
  rcases this with rfl | rfl | rfl | rfl | rfl | rfl | rfl | rfl | rfl | rfl <;> simp only [Int.reducePow] at h2 <;> omega

theorem Small.step {l : List UInt8} {k : Nat} {a : Int} {c : UInt8} (h : Small l k a) (hk : k < 9) (hc : l[k]? = some c) (h1 : 48 ≤ (c.toNat : Int)) (h2 : (c.toNat : Int) ≤ 57) : Small l (k + 1) (a * 10 + ((c.toNat : Int) - 48)) := by
  have hb := h.bounds (by omega)
  refine ⟨h.1.step hc h1 h2 (by omega), ?_⟩
  have h3 := h.2
  have h4 : (10 : Int) ^ (k + 1) = 10 ^ k * 10 := Int.pow_succ 10 k
  rw [h4]
  generalize (10 : Int) ^ k = q at h3
  omega

/-- smallDecimal answers a number and a bool; where the bool is true the number is what the digits write. -/
def Smalls (l : List UInt8) (w : World) (e : Ending) (w' : World) : Prop := ∃ n b, e = .returned (.tuple #[.int .u64 n, .bool b]) ∧ w' = w ∧ (b = true → clsOf l = 0 ∧ numOf l = n ∧ 0 ≤ n ∧ n ≤ 999999999)
theorem Smalls.no {l : List UInt8} {w : World} : Smalls l w (.returned (.tuple #[.int .u64 0, .bool false])) w := ⟨0, false, rfl, rfl, fun e => by cases e⟩
theorem Smalls.yes {l : List UInt8} {w : World} {k : Nat} {a : Int} (h : Small l k a) (hk : k ≤ 9) (hl : l.length ≤ k) (hne : l ≠ []) : Smalls l w (.returned (.tuple #[.int .u64 a, .bool true])) w :=
  ⟨a, true, rfl, rfl, fun _ => ⟨(h.1.fin hne hl).2.1, (h.1.fin hne hl).1, h.bounds hk⟩⟩

set_option maxHeartbeats 400000 in
set_option maxRecDepth 100000 in
theorem small_any (s : ByteArray) (w : World) (hm : s.size ≤ 70000) : Calls Tryd.prog 12 #[.string s] w (Smalls s.data.toList w) := by
  by_cases h0 : s.size = 0
  · obtain rfl : s = ByteArray.empty := ByteArray.size_eq_zero_iff.1 h0
    go_enter Tryd.func12, Tryd.ntmps12
    go_wp2
    go_ret2
    exact Smalls.no
  by_cases h9 : s.size ≤ 9
  · have hz : (0 : Int) < s.size := by omega
    have hne : s.data.toList ≠ [] := by intro e; have := size_len s; rw [e] at this; simp at this; omega
    have HNE := (show Hid _ from hne)
    have hq : ((s.size : Int) == 0) = false := by simp only [beq_eq_false_iff_ne]; omega
    have hse : ¬ s = ByteArray.empty := by rintro rfl; exact h0 rfl
    clear hne h0
    go_enter Tryd.func12, Tryd.ntmps12
    go_wp2
    go_loop [4, 5] (fun n i => ∃ (k : Nat) (a : Int), k ≤ s.size ∧ i = .int .i64 k ∧ n = .int .u64 a ∧ Small s.data.toList k a) (fun _ i => s.size - (intOf i).toNat)
    case atStart => exact ⟨0, 0, Nat.zero_le _, rfl, rfl, sofar_zero _, by decide⟩
    case round =>
      obtain ⟨k, a, hk, rfl, rfl, hS⟩ := hrel
      have HS := (show Hid _ from hS)
      have hb := hS.bounds (by omega)
      clear hS
      by_cases hlt : k < s.size
      · obtain ⟨c, hc, hidx, hc0, hc1⟩ := byte_at hlt
        have HC := (show Hid _ from hc)
        have hI : (k : Int) < (s.size : Int) := by omega
        have HN : Hid (48 ≤ (c.toNat : Int) → (c.toNat : Int) ≤ 57 → Small s.data.toList (k + 1) (a * 10 + ((c.toNat : Int) - 48))) := fun h1 h2 => Small.step HS.out (by omega) HC.out h1 h2
        clear hc
        revert HN hidx
        generalize (c.toNat : Int) = cc at hc0 hc1
        intro hidx HN
        by_cases h1 : 48 ≤ cc
        · by_cases h2 : cc ≤ 57
          · go_wp2
            go_round
            case rel => exact ⟨k + 1, _, by omega, by go_num, rfl, HN.out h1 h2⟩
            case measure => simp [intOf]; omega
          · go_wp2
            go_ret2
            exact Smalls.no
        · go_wp2
          go_ret2
          exact Smalls.no
      · go_wp2
        go_ret2
        exact Smalls.yes HS.out (by omega) (by rw [size_len]; omega) HNE.out
  · have hq : ((s.size : Int) == 0) = false := by simp only [beq_eq_false_iff_ne]; omega
    have hse : ¬ s = ByteArray.empty := by rintro rfl; exact h0 rfl
    go_enter Tryd.func12, Tryd.ntmps12
    go_wp2
    go_ret2
    exact Smalls.no

/-- zzDigits' answer. -/
def DigitsEnd (l : List UInt8) (w : World) (e : Ending) (w' : World) : Prop := e = .returned (.tuple #[.int .u64 (numOf l), .int .i64 (clsOf l)]) ∧ w' = w
theorem DigitsEnd.mk' {l : List UInt8} {w : World} {a b : Int} (h1 : numOf l = a) (h2 : clsOf l = b) : DigitsEnd l w (.returned (.tuple #[.int .u64 a, .int .i64 b])) w := by
  subst h1 h2
  exact ⟨rfl, rfl⟩

set_option maxHeartbeats 400000 in
set_option maxRecDepth 100000 in
theorem digits_any (s : ByteArray) (w : World) (hm : s.size ≤ 70000) : Calls Tryd.prog 9 #[.string s] w (DigitsEnd s.data.toList w) := by
  by_cases h0 : s.size = 0
  · obtain rfl : s = ByteArray.empty := ByteArray.size_eq_zero_iff.1 h0
    go_enter Tryd.func9, Tryd.ntmps9
    go_wp2
    go_ret2
    exact DigitsEnd.mk' empty_cls.1 empty_cls.2
  · have hz : (0 : Int) < s.size := by omega
    have hne : s.data.toList ≠ [] := by intro e; have := size_len s; rw [e] at this; simp at this; omega
    have HNE := (show Hid _ from hne)
    have hq : ((s.size : Int) == 0) = false := by simp only [beq_eq_false_iff_ne]; omega
    have hse : ¬ s = ByteArray.empty := by rintro rfl; exact h0 rfl
    clear hne h0
    go_enter Tryd.func9, Tryd.ntmps9
    go_wp2
    go_loop [4, 5] (fun n i => ∃ (k : Nat) (a : Int), k ≤ s.size ∧ i = .int .i64 k ∧ n = .int .u64 a ∧ Sofar s.data.toList k a) (fun _ i => s.size - (intOf i).toNat)
    case atStart => exact ⟨0, 0, Nat.zero_le _, rfl, rfl, sofar_zero _⟩
    case round =>
      obtain ⟨k, a, hk, rfl, rfl, hS⟩ := hrel
      have HS := (show Hid _ from hS)
      have hb := hS.bounds
      clear hS
      by_cases hlt : k < s.size
      · obtain ⟨c, hc, hidx, hc0, hc1⟩ := byte_at hlt
        have HC := (show Hid _ from hc)
        have hI : (k : Int) < (s.size : Int) := by omega
        have HN : Hid (48 ≤ (c.toNat : Int) → (c.toNat : Int) ≤ 57 → a * 10 + ((c.toNat : Int) - 48) ≤ 18446744073709551615 → Sofar s.data.toList (k + 1) (a * 10 + ((c.toNat : Int) - 48))) := fun h1 h2 h3 => Sofar.step HS.out HC.out h1 h2 h3
        have HO : Hid (48 ≤ (c.toNat : Int) → (c.toNat : Int) ≤ 57 → 18446744073709551615 < a * 10 + ((c.toNat : Int) - 48) → numOf s.data.toList = 0 ∧ clsOf s.data.toList = 2) := fun h1 h2 h3 => Sofar.over HS.out HC.out h1 h2 h3
        have HD : Hid (¬ (48 ≤ (c.toNat : Int) ∧ (c.toNat : Int) ≤ 57) → numOf s.data.toList = 0 ∧ clsOf s.data.toList = 1) := fun h => Sofar.nodigit HS.out HC.out h
        clear hc
        revert HN HO HD hidx
        generalize (c.toNat : Int) = cc at hc0 hc1
        intro hidx HN HO HD
        by_cases h1 : 48 ≤ cc
        · by_cases h2 : cc ≤ 57
          · by_cases h3 : a * 10 + (cc - 48) ≤ 18446744073709551615
            · go_wp2
              go_round
              case rel => exact ⟨k + 1, _, by omega, by go_num, rfl, HN.out h1 h2 h3⟩
              case measure => simp [intOf]; omega
            · go_wp2
              go_ret2
              exact DigitsEnd.mk' (HO.out h1 h2 (by omega)).1 (HO.out h1 h2 (by omega)).2
          · go_wp2
            go_ret2
            exact DigitsEnd.mk' (HD.out (by omega)).1 (HD.out (by omega)).2
        · go_wp2
          go_ret2
          exact DigitsEnd.mk' (HD.out (by omega)).1 (HD.out (by omega)).2
      · have HF := (show Hid _ from Sofar.fin HS.out HNE.out (by rw [size_len]; omega))
        go_wp2
        go_ret2
        exact DigitsEnd.mk' HF.out.1 HF.out.2.1
end Go.Proofs.Qxb6614300aDoor
