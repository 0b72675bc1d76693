/-
  THE WALKS, 2: zzSigned, zzBytes.
-/
import Derived.Test.Qxb6614300aDoorWalks1
namespace Go.Proofs.Qxb6614300aDoor
open Go.RowKit

/-- A string that is not empty: its first byte and the rest, as ops of the walk. -/
theorem head_of {s : ByteArray} (h : 0 < s.size) : ∃ (c : UInt8) (d : ByteArray), s.data.toList = c :: d.data.toList ∧ d.size ≤ s.size ∧
    (∀ w, (Instr.index 9 (.string s) (.int .i64 0)).run Tryd.prog w = .ok (.int .u8 (c.toNat : Int)) w) ∧ (c.toNat : Int) ≤ 255 ∧
    (∀ w, (Instr.slice 9 (.string s) (some (.int .i64 1)) none none).run Tryd.prog w = .ok (.string d) w) := by
  obtain ⟨c, hc, hidx, _, h255⟩ := byte_at h
  have hr : (s.extract 1 s.size).data.toList = s.data.toList.drop 1 := by
    rw [ByteArray.data_extract, Array.toList_extract, List.extract_eq_take_drop]
    rw [List.take_of_length_le (by rw [List.length_drop, size_len]; omega)]
  refine ⟨c, s.extract 1 s.size, by rw [hr]; exact data_cons hc, by rw [ByteArray.size_extract]; omega, hidx, h255, fun w => ?_⟩
  rw [run_slice_string_from_if w 9 s .i64 1 Tryd.underlying9, if_pos ⟨by omega, by omega⟩]
  rfl

theorem not_empty {s : ByteArray} (h : 0 < s.size) : ¬ s = ByteArray.empty := by rintro rfl; exact absurd h (by decide)

/-- zzSigned's answer. -/
def SignedEnd (v : Int) (b : Bool) (w : World) (e : Ending) (w' : World) : Prop := e = .returned (.tuple #[.int .i64 v, .bool b]) ∧ w' = w
theorem SignedEnd.mk' {v v' : Int} {b b' : Bool} {w : World} (h : v = v' ∧ b = b') : SignedEnd v b w (.returned (.tuple #[.int .i64 v', .bool b'])) w := by
  obtain ⟨rfl, rfl⟩ := h
  exact ⟨rfl, rfl⟩

/-- What zzDigits answers, as a premise. -/
def DigitsAre (d : ByteArray) (a b : Int) : Prop := ∀ w, Calls Tryd.prog 9 #[.string d] w fun e w' => e = .returned (.tuple #[.int .u64 a, .int .i64 b]) ∧ w' = w
theorem digits_are (d : ByteArray) (h : d.size ≤ 70000) : DigitsAre d (numOf d.data.toList) (clsOf d.data.toList) := fun w => digits_any d w h

set_option maxHeartbeats 400000 in
set_option maxRecDepth 100000 in
theorem plus_syn (s d : ByteArray) (a : Int) (w : World) (hz : (0 : Int) < s.size) (hm : (s.size : Int) ≤ 70000) (hidx : ∀ w, (Instr.index 9 (.string s) (.int .i64 0)).run Tryd.prog w = .ok (.int .u8 43) w) (hsl : ∀ w, (Instr.slice 9 (.string s) (some (.int .i64 1)) none none).run Tryd.prog w = .ok (.string d) w) (hD : DigitsAre d a 1)  :
    Calls Tryd.prog 7 #[.string s] w (SignedEnd 0 false w) := by
  have HD := (show Hid _ from hD)
  clear hD
  go_enter Tryd.func7, Tryd.ntmps7
  go_wp2_with fail
  refine (HD.out _).mono ?_
  rintro e w' ⟨rfl, rfl⟩
  go_wp2
  go_ret2
  exact SignedEnd.mk' ⟨rfl, rfl⟩

set_option maxHeartbeats 400000 in
set_option maxRecDepth 100000 in
theorem plain_syn (s : ByteArray) (a : Int) (w : World) (hz : (0 : Int) < s.size) (hm : (s.size : Int) ≤ 70000) (cc : Int) (h43 : (cc == 43) = false) (h45 : (cc == 45) = false) (hidx : ∀ w, (Instr.index 9 (.string s) (.int .i64 0)).run Tryd.prog w = .ok (.int .u8 cc) w) (hD : DigitsAre s a 1)  :
    Calls Tryd.prog 7 #[.string s] w (SignedEnd 0 false w) := by
  have HD := (show Hid _ from hD)
  clear hD
  go_enter Tryd.func7, Tryd.ntmps7
  go_wp2_with fail
  refine (HD.out _).mono ?_
  rintro e w' ⟨rfl, rfl⟩
  go_wp2
  go_ret2
  exact SignedEnd.mk' ⟨rfl, rfl⟩

set_option maxHeartbeats 400000 in
set_option maxRecDepth 100000 in
theorem plus_big (s d : ByteArray) (a : Int) (w : World) (hz : (0 : Int) < s.size) (hm : (s.size : Int) ≤ 70000) (hidx : ∀ w, (Instr.index 9 (.string s) (.int .i64 0)).run Tryd.prog w = .ok (.int .u8 43) w) (hsl : ∀ w, (Instr.slice 9 (.string s) (some (.int .i64 1)) none none).run Tryd.prog w = .ok (.string d) w) (hD : DigitsAre d a 2)  :
    Calls Tryd.prog 7 #[.string s] w (SignedEnd 9223372036854775807 false w) := by
  have HD := (show Hid _ from hD)
  clear hD
  go_enter Tryd.func7, Tryd.ntmps7
  go_wp2_with fail
  refine (HD.out _).mono ?_
  rintro e w' ⟨rfl, rfl⟩
  go_wp2
  go_ret2
  exact SignedEnd.mk' ⟨rfl, rfl⟩

set_option maxHeartbeats 400000 in
set_option maxRecDepth 100000 in
theorem plain_big (s : ByteArray) (a : Int) (w : World) (hz : (0 : Int) < s.size) (hm : (s.size : Int) ≤ 70000) (cc : Int) (h43 : (cc == 43) = false) (h45 : (cc == 45) = false) (hidx : ∀ w, (Instr.index 9 (.string s) (.int .i64 0)).run Tryd.prog w = .ok (.int .u8 cc) w) (hD : DigitsAre s a 2)  :
    Calls Tryd.prog 7 #[.string s] w (SignedEnd 9223372036854775807 false w) := by
  have HD := (show Hid _ from hD)
  clear hD
  go_enter Tryd.func7, Tryd.ntmps7
  go_wp2_with fail
  refine (HD.out _).mono ?_
  rintro e w' ⟨rfl, rfl⟩
  go_wp2
  go_ret2
  exact SignedEnd.mk' ⟨rfl, rfl⟩

set_option maxHeartbeats 400000 in
set_option maxRecDepth 100000 in
theorem plus_over (s d : ByteArray) (a : Int) (w : World) (hz : (0 : Int) < s.size) (hm : (s.size : Int) ≤ 70000) (hidx : ∀ w, (Instr.index 9 (.string s) (.int .i64 0)).run Tryd.prog w = .ok (.int .u8 43) w) (hsl : ∀ w, (Instr.slice 9 (.string s) (some (.int .i64 1)) none none).run Tryd.prog w = .ok (.string d) w) (hD : DigitsAre d a 0) (h : 9223372036854775807 < a) :
    Calls Tryd.prog 7 #[.string s] w (SignedEnd 9223372036854775807 false w) := by
  have HD := (show Hid _ from hD)
  clear hD
  go_enter Tryd.func7, Tryd.ntmps7
  go_wp2_with fail
  refine (HD.out _).mono ?_
  rintro e w' ⟨rfl, rfl⟩
  go_wp2
  go_ret2
  exact SignedEnd.mk' ⟨rfl, rfl⟩

set_option maxHeartbeats 400000 in
set_option maxRecDepth 100000 in
theorem plain_over (s : ByteArray) (a : Int) (w : World) (hz : (0 : Int) < s.size) (hm : (s.size : Int) ≤ 70000) (cc : Int) (h43 : (cc == 43) = false) (h45 : (cc == 45) = false) (hidx : ∀ w, (Instr.index 9 (.string s) (.int .i64 0)).run Tryd.prog w = .ok (.int .u8 cc) w) (hD : DigitsAre s a 0) (h : 9223372036854775807 < a) :
    Calls Tryd.prog 7 #[.string s] w (SignedEnd 9223372036854775807 false w) := by
  have HD := (show Hid _ from hD)
  clear hD
  go_enter Tryd.func7, Tryd.ntmps7
  go_wp2_with fail
  refine (HD.out _).mono ?_
  rintro e w' ⟨rfl, rfl⟩
  go_wp2
  go_ret2
  exact SignedEnd.mk' ⟨rfl, rfl⟩

set_option maxHeartbeats 400000 in
set_option maxRecDepth 100000 in
theorem plus_fit (s d : ByteArray) (a : Int) (w : World) (hz : (0 : Int) < s.size) (hm : (s.size : Int) ≤ 70000) (hidx : ∀ w, (Instr.index 9 (.string s) (.int .i64 0)).run Tryd.prog w = .ok (.int .u8 43) w) (hsl : ∀ w, (Instr.slice 9 (.string s) (some (.int .i64 1)) none none).run Tryd.prog w = .ok (.string d) w) (ha0 : 0 ≤ a) (ha1 : a ≤ 18446744073709551615) (hD : DigitsAre d a 0) (h : a ≤ 9223372036854775807) :
    Calls Tryd.prog 7 #[.string s] w (SignedEnd a true w) := by
  have HD := (show Hid _ from hD)
  clear hD
  go_enter Tryd.func7, Tryd.ntmps7
  go_wp2_with fail
  refine (HD.out _).mono ?_
  rintro e w' ⟨rfl, rfl⟩
  go_wp2
  go_ret2
  exact SignedEnd.mk' ⟨rfl, rfl⟩

set_option maxHeartbeats 400000 in
set_option maxRecDepth 100000 in
theorem plain_fit (s : ByteArray) (a : Int) (w : World) (hz : (0 : Int) < s.size) (hm : (s.size : Int) ≤ 70000) (cc : Int) (h43 : (cc == 43) = false) (h45 : (cc == 45) = false) (hidx : ∀ w, (Instr.index 9 (.string s) (.int .i64 0)).run Tryd.prog w = .ok (.int .u8 cc) w) (ha0 : 0 ≤ a) (ha1 : a ≤ 18446744073709551615) (hD : DigitsAre s a 0) (h : a ≤ 9223372036854775807) :
    Calls Tryd.prog 7 #[.string s] w (SignedEnd a true w) := by
  have HD := (show Hid _ from hD)
  clear hD
  go_enter Tryd.func7, Tryd.ntmps7
  go_wp2_with fail
  refine (HD.out _).mono ?_
  rintro e w' ⟨rfl, rfl⟩
  go_wp2
  go_ret2
  exact SignedEnd.mk' ⟨rfl, rfl⟩

set_option maxHeartbeats 400000 in
set_option maxRecDepth 100000 in
theorem minus_syn (s d : ByteArray) (a : Int) (w : World) (hz : (0 : Int) < s.size) (hm : (s.size : Int) ≤ 70000) (hidx : ∀ w, (Instr.index 9 (.string s) (.int .i64 0)).run Tryd.prog w = .ok (.int .u8 45) w) (hsl : ∀ w, (Instr.slice 9 (.string s) (some (.int .i64 1)) none none).run Tryd.prog w = .ok (.string d) w) (hD : DigitsAre d a 1)  :
    Calls Tryd.prog 7 #[.string s] w (SignedEnd 0 false w) := by
  have HD := (show Hid _ from hD)
  clear hD
  go_enter Tryd.func7, Tryd.ntmps7
  go_wp2_with fail
  refine (HD.out _).mono ?_
  rintro e w' ⟨rfl, rfl⟩
  go_wp2
  go_ret2
  exact SignedEnd.mk' ⟨rfl, rfl⟩

set_option maxHeartbeats 400000 in
set_option maxRecDepth 100000 in
theorem minus_big (s d : ByteArray) (a : Int) (w : World) (hz : (0 : Int) < s.size) (hm : (s.size : Int) ≤ 70000) (hidx : ∀ w, (Instr.index 9 (.string s) (.int .i64 0)).run Tryd.prog w = .ok (.int .u8 45) w) (hsl : ∀ w, (Instr.slice 9 (.string s) (some (.int .i64 1)) none none).run Tryd.prog w = .ok (.string d) w) (hD : DigitsAre d a 2)  :
    Calls Tryd.prog 7 #[.string s] w (SignedEnd (-9223372036854775808) false w) := by
  have HD := (show Hid _ from hD)
  clear hD
  go_enter Tryd.func7, Tryd.ntmps7
  go_wp2_with fail
  refine (HD.out _).mono ?_
  rintro e w' ⟨rfl, rfl⟩
  go_wp2
  go_ret2
  exact SignedEnd.mk' ⟨rfl, rfl⟩

set_option maxHeartbeats 400000 in
set_option maxRecDepth 100000 in
theorem minus_over (s d : ByteArray) (a : Int) (w : World) (hz : (0 : Int) < s.size) (hm : (s.size : Int) ≤ 70000) (hidx : ∀ w, (Instr.index 9 (.string s) (.int .i64 0)).run Tryd.prog w = .ok (.int .u8 45) w) (hsl : ∀ w, (Instr.slice 9 (.string s) (some (.int .i64 1)) none none).run Tryd.prog w = .ok (.string d) w) (hD : DigitsAre d a 0) (h : 9223372036854775808 < a) :
    Calls Tryd.prog 7 #[.string s] w (SignedEnd (-9223372036854775808) false w) := by
  have HD := (show Hid _ from hD)
  clear hD
  go_enter Tryd.func7, Tryd.ntmps7
  go_wp2_with fail
  refine (HD.out _).mono ?_
  rintro e w' ⟨rfl, rfl⟩
  go_wp2
  go_ret2
  exact SignedEnd.mk' ⟨rfl, rfl⟩

set_option maxHeartbeats 400000 in
set_option maxRecDepth 100000 in
theorem minus_end (s d : ByteArray) (w : World) (hz : (0 : Int) < s.size) (hm : (s.size : Int) ≤ 70000) (hidx : ∀ w, (Instr.index 9 (.string s) (.int .i64 0)).run Tryd.prog w = .ok (.int .u8 45) w) (hsl : ∀ w, (Instr.slice 9 (.string s) (some (.int .i64 1)) none none).run Tryd.prog w = .ok (.string d) w) (hD : DigitsAre d 9223372036854775808 0)  :
    Calls Tryd.prog 7 #[.string s] w (SignedEnd (-9223372036854775808) true w) := by
  have HD := (show Hid _ from hD)
  clear hD
  go_enter Tryd.func7, Tryd.ntmps7
  go_wp2_with fail
  refine (HD.out _).mono ?_
  rintro e w' ⟨rfl, rfl⟩
  go_wp2
  go_ret2
  exact SignedEnd.mk' ⟨rfl, rfl⟩

set_option maxHeartbeats 400000 in
set_option maxRecDepth 100000 in
theorem minus_fit (s d : ByteArray) (a : Int) (w : World) (hz : (0 : Int) < s.size) (hm : (s.size : Int) ≤ 70000) (hidx : ∀ w, (Instr.index 9 (.string s) (.int .i64 0)).run Tryd.prog w = .ok (.int .u8 45) w) (hsl : ∀ w, (Instr.slice 9 (.string s) (some (.int .i64 1)) none none).run Tryd.prog w = .ok (.string d) w) (ha0 : 0 ≤ a) (ha1 : a ≤ 18446744073709551615) (hD : DigitsAre d a 0) (h : a < 9223372036854775808) :
    Calls Tryd.prog 7 #[.string s] w (SignedEnd (-a) true w) := by
  have HD := (show Hid _ from hD)
  clear hD
  go_enter Tryd.func7, Tryd.ntmps7
  go_wp2_with fail
  refine (HD.out _).mono ?_
  rintro e w' ⟨rfl, rfl⟩
  go_wp2
  go_ret2
  exact SignedEnd.mk' ⟨rfl, rfl⟩


theorem beq_no {c : UInt8} {n : Int} (h : (c.toNat : Int) ≠ n) : ((c.toNat : Int) == n) = false := by simp only [beq_eq_false_iff_ne]; exact h

set_option maxHeartbeats 400000 in
set_option maxRecDepth 100000 in
theorem signed_empty (w : World) : Calls Tryd.prog 7 #[.string ByteArray.empty] w (SignedEnd 0 false w) := by
  have HD := (show Hid _ from digits_are ByteArray.empty (by decide))
  go_enter Tryd.func7, Tryd.ntmps7
  go_wp2_with fail
  refine (HD.out _).mono ?_
  rintro e w' ⟨rfl, rfl⟩
  rw [show numOf ByteArray.empty.data.toList = 0 from rfl, show clsOf ByteArray.empty.data.toList = 1 from rfl]
  go_wp2
  go_ret2
  exact SignedEnd.mk' ⟨rfl, rfl⟩

/-- zzSigned. -/
theorem signed_any (s : ByteArray) (w : World) (hm : s.size ≤ 65536) : Calls Tryd.prog 7 #[.string s] w (SignedEnd (valOf s.data.toList) (okOf s.data.toList) w) := by
  by_cases h0 : s.size = 0
  · obtain rfl : s = ByteArray.empty := ByteArray.size_eq_zero_iff.1 h0
    exact signed_empty w
  have hz : (0 : Int) < s.size := by omega
  have hmI : (s.size : Int) ≤ 70000 := by omega
  obtain ⟨c, d, hl, hd, hidx, h255, hsl⟩ := head_of (s := s) (by omega)
  by_cases h45 : c = 45
  · subst h45
    have hN := neg_minus d.data.toList
    rw [← hl] at hN
    obtain ⟨p1, p2, p3, p4⟩ := hN
    have hD := digits_are d (by omega)
    obtain ⟨n0, n1⟩ := num_bounds d.data.toList
    generalize numOf d.data.toList = a at hD n0 n1 p3 p4
    rcases cls_three d.data.toList with h | h | h
    · rw [h] at hD
      rcases Int.lt_trichotomy a 9223372036854775808 with h1 | h1 | h1
      · rw [(p4 h (by omega)).1, (p4 h (by omega)).2]
        exact minus_fit s d a w hz hmI hidx hsl n0 n1 hD h1
      · subst h1
        rw [(p4 h (by omega)).1, (p4 h (by omega)).2]
        exact minus_end s d w hz hmI hidx hsl hD
      · rw [(p3 h h1).1, (p3 h h1).2]
        exact minus_over s d a w hz hmI hidx hsl hD h1
    · rw [h] at hD
      rw [(p1 h).1, (p1 h).2]
      exact minus_syn s d a w hz hmI hidx hsl hD
    · rw [h] at hD
      rw [(p2 h).1, (p2 h).2]
      exact minus_big s d a w hz hmI hidx hsl hD
  by_cases h43 : c = 43
  · subst h43
    have hN := pos_plus d.data.toList
    rw [← hl] at hN
    obtain ⟨p1, p2, p3, p4⟩ := hN
    have hD := digits_are d (by omega)
    obtain ⟨n0, n1⟩ := num_bounds d.data.toList
    generalize numOf d.data.toList = a at hD n0 n1 p3 p4
    rcases cls_three d.data.toList with h | h | h
    · rw [h] at hD
      by_cases h1 : a ≤ 9223372036854775807
      · rw [(p4 h h1).1, (p4 h h1).2]
        exact plus_fit s d a w hz hmI hidx hsl n0 n1 hD h1
      · rw [(p3 h (by omega)).1, (p3 h (by omega)).2]
        exact plus_over s d a w hz hmI hidx hsl hD (by omega)
    · rw [h] at hD
      rw [(p1 h).1, (p1 h).2]
      exact plus_syn s d a w hz hmI hidx hsl hD
    · rw [h] at hD
      rw [(p2 h).1, (p2 h).2]
      exact plus_big s d a w hz hmI hidx hsl hD
  · have e43 : c.toNat ≠ 43 := fun e => h43 (UInt8.toNat_inj.1 e)
    have e45 : c.toNat ≠ 45 := fun e => h45 (UInt8.toNat_inj.1 e)
    have hs : Signless s.data.toList := fun c' r' e => by
      rw [hl] at e
      injection e with e _
      subst e
      exact ⟨e43, e45⟩
    obtain ⟨p1, p2, p3, p4⟩ := pos_signless hs
    have hD := digits_are s (by omega)
    obtain ⟨n0, n1⟩ := num_bounds s.data.toList
    have b43 : ((c.toNat : Int) == 43) = false := beq_no (by omega)
    have b45 : ((c.toNat : Int) == 45) = false := beq_no (by omega)
    generalize numOf s.data.toList = a at hD n0 n1 p3 p4
    rcases cls_three s.data.toList with h | h | h
    · rw [h] at hD
      by_cases h1 : a ≤ 9223372036854775807
      · rw [(p4 h h1).1, (p4 h h1).2]
        exact plain_fit s a w hz hmI _ b43 b45 hidx n0 n1 hD h1
      · rw [(p3 h (by omega)).1, (p3 h (by omega)).2]
        exact plain_over s a w hz hmI _ b43 b45 hidx hD (by omega)
    · rw [h] at hD
      rw [(p1 h).1, (p1 h).2]
      exact plain_syn s a w hz hmI _ b43 b45 hidx hD
    · rw [h] at hD
      rw [(p2 h).1, (p2 h).2]
      exact plain_big s a w hz hmI _ b43 b45 hidx hD

/-- The bound on the length: some bool, nothing is turned. -/
def Bools (w : World) (e : Ending) (w' : World) : Prop := ∃ q, e = .returned (.bool q) ∧ w' = w
set_option maxHeartbeats 400000 in
set_option maxRecDepth 100000 in
theorem bytes_3 (s : ByteArray) (w : World) (hm : s.size ≤ 9223372036854775807) : Calls Tryd.prog 5 #[.string s] w (Bools w) := by
  by_cases h : s.size ≤ 1048576
  · go_enter Tryd.func5, Tryd.ntmps5
    go_wp2
    go_ret
    exact ⟨true, rfl, rfl⟩
  · go_enter Tryd.func5, Tryd.ntmps5
    go_wp2
    go_ret
    exact ⟨false, rfl, rfl⟩
set_option maxHeartbeats 400000 in
set_option maxRecDepth 100000 in
theorem bytes_4 (s : ByteArray) (w : World) (hm : s.size ≤ 9223372036854775807) : Calls Tryd.prog 8 #[.string s] w (Bools w) := by
  by_cases h : s.size ≤ 1048576
  · go_enter Tryd.func8, Tryd.ntmps8
    go_wp2
    go_ret
    exact ⟨true, rfl, rfl⟩
  · go_enter Tryd.func8, Tryd.ntmps8
    go_wp2
    go_ret
    exact ⟨false, rfl, rfl⟩
end Go.Proofs.Qxb6614300aDoor
