/-
  THE WALKS, 5: FnParseIntMinusNegates.
-/
import Derived.Test.Qxb6614300aDoorWalks4
namespace Go.Proofs.Qxb6614300aDoor
open Go.RowKit

set_option maxHeartbeats 1000000 in
set_option maxRecDepth 100000 in
theorem neg_43_ok (pr ps : Addr) (s : ByteArray) (v : Int) (w : World) (hE : Errs pr ps w) (hz : (0 : Int) < s.size) (hm : s.size ≤ 65536) (hidx : ∀ w, (Instr.index 9 (.string s) (.int .i64 0)).run Tryd.prog w = .ok (.int .u8 43) w) (hP : ParseIs pr ps s v true) (hP2 : ParseIs pr ps ((⟨#[45]⟩ : ByteArray) ++ s) 0 false) (hS : SignedIs s v true) :
    Calls Tryd.prog 4 #[.string s] w (Holds w) := by
  have HE := (show Hid (Errs pr ps w) from hE)
  have HP := (show Hid _ from hP)
  have HP2 := (show Hid _ from hP2)
  have HS := (show Hid _ from hS)
  have heq : (v == v) = true := by simp
  clear hE hP hP2 hS
  go_enter Tryd.func4, Tryd.ntmps4
  go_wp2_with fail
  refine (bytes_4 s w (by omega)).mono ?_
  rintro e w' ⟨q, rfl, rfl⟩
  cases q with
  | false =>
    go_wp2_with fail
    go_ret
    exact ⟨rfl, Below.refl _ _⟩
  | true =>
    go_wp2_with fail
    refine (HP.out w' HE.out).mono ?_
    rintro e w1 ⟨er1, rfl, hb1, h1⟩
    obtain rfl := h1.yes
    have HE1 := (show Hid (Errs pr ps w1) from HE.out.below hb1)
    go_wp2_with fail
    refine (HP2.out w1 HE1.out).mono ?_
    rintro e w2 ⟨er2, rfl, hb2, h2⟩
    obtain ⟨x2, rfl⟩ := h2.no
    go_wp2_with fail
    refine (HS.out w2).mono ?_
    rintro e w3 ⟨rfl, rfl⟩
    go_wp2_with fail
    go_ret
    exact ⟨rfl, hb1.trans (hb2.mono hb1.size)⟩

set_option maxHeartbeats 1000000 in
set_option maxRecDepth 100000 in
theorem neg_45_ok (pr ps : Addr) (s : ByteArray) (v : Int) (w : World) (hE : Errs pr ps w) (hz : (0 : Int) < s.size) (hm : s.size ≤ 65536) (hidx : ∀ w, (Instr.index 9 (.string s) (.int .i64 0)).run Tryd.prog w = .ok (.int .u8 45) w) (hP : ParseIs pr ps s v true) (hP2 : ParseIs pr ps ((⟨#[45]⟩ : ByteArray) ++ s) 0 false) (hS : SignedIs s v true) :
    Calls Tryd.prog 4 #[.string s] w (Holds w) := by
  have HE := (show Hid (Errs pr ps w) from hE)
  have HP := (show Hid _ from hP)
  have HP2 := (show Hid _ from hP2)
  have HS := (show Hid _ from hS)
  have heq : (v == v) = true := by simp
  clear hE hP hP2 hS
  go_enter Tryd.func4, Tryd.ntmps4
  go_wp2_with fail
  refine (bytes_4 s w (by omega)).mono ?_
  rintro e w' ⟨q, rfl, rfl⟩
  cases q with
  | false =>
    go_wp2_with fail
    go_ret
    exact ⟨rfl, Below.refl _ _⟩
  | true =>
    go_wp2_with fail
    refine (HP.out w' HE.out).mono ?_
    rintro e w1 ⟨er1, rfl, hb1, h1⟩
    obtain rfl := h1.yes
    have HE1 := (show Hid (Errs pr ps w1) from HE.out.below hb1)
    go_wp2_with fail
    refine (HP2.out w1 HE1.out).mono ?_
    rintro e w2 ⟨er2, rfl, hb2, h2⟩
    obtain ⟨x2, rfl⟩ := h2.no
    go_wp2_with fail
    refine (HS.out w2).mono ?_
    rintro e w3 ⟨rfl, rfl⟩
    go_wp2_with fail
    go_ret
    exact ⟨rfl, hb1.trans (hb2.mono hb1.size)⟩

set_option maxHeartbeats 1000000 in
set_option maxRecDepth 100000 in
theorem neg_43_no (pr ps : Addr) (s : ByteArray) (v : Int) (w : World) (hE : Errs pr ps w) (hz : (0 : Int) < s.size) (hm : s.size ≤ 65536) (hidx : ∀ w, (Instr.index 9 (.string s) (.int .i64 0)).run Tryd.prog w = .ok (.int .u8 43) w) (hP : ParseIs pr ps s v false) (hP2 : ParseIs pr ps ((⟨#[45]⟩ : ByteArray) ++ s) 0 false) (hS : SignedIs s v false) :
    Calls Tryd.prog 4 #[.string s] w (Holds w) := by
  have HE := (show Hid (Errs pr ps w) from hE)
  have HP := (show Hid _ from hP)
  have HP2 := (show Hid _ from hP2)
  have HS := (show Hid _ from hS)
  have heq : (v == v) = true := by simp
  clear hE hP hP2 hS
  go_enter Tryd.func4, Tryd.ntmps4
  go_wp2_with fail
  refine (bytes_4 s w (by omega)).mono ?_
  rintro e w' ⟨q, rfl, rfl⟩
  cases q with
  | false =>
    go_wp2_with fail
    go_ret
    exact ⟨rfl, Below.refl _ _⟩
  | true =>
    go_wp2_with fail
    refine (HP.out w' HE.out).mono ?_
    rintro e w1 ⟨er1, rfl, hb1, h1⟩
    obtain ⟨x1, rfl⟩ := h1.no
    have HE1 := (show Hid (Errs pr ps w1) from HE.out.below hb1)
    go_wp2_with fail
    refine (HP2.out w1 HE1.out).mono ?_
    rintro e w2 ⟨er2, rfl, hb2, h2⟩
    obtain ⟨x2, rfl⟩ := h2.no
    go_wp2_with fail
    refine (HS.out w2).mono ?_
    rintro e w3 ⟨rfl, rfl⟩
    go_wp2_with fail
    go_ret
    exact ⟨rfl, hb1.trans (hb2.mono hb1.size)⟩

set_option maxHeartbeats 1000000 in
set_option maxRecDepth 100000 in
theorem neg_45_no (pr ps : Addr) (s : ByteArray) (v : Int) (w : World) (hE : Errs pr ps w) (hz : (0 : Int) < s.size) (hm : s.size ≤ 65536) (hidx : ∀ w, (Instr.index 9 (.string s) (.int .i64 0)).run Tryd.prog w = .ok (.int .u8 45) w) (hP : ParseIs pr ps s v false) (hP2 : ParseIs pr ps ((⟨#[45]⟩ : ByteArray) ++ s) 0 false) (hS : SignedIs s v false) :
    Calls Tryd.prog 4 #[.string s] w (Holds w) := by
  have HE := (show Hid (Errs pr ps w) from hE)
  have HP := (show Hid _ from hP)
  have HP2 := (show Hid _ from hP2)
  have HS := (show Hid _ from hS)
  have heq : (v == v) = true := by simp
  clear hE hP hP2 hS
  go_enter Tryd.func4, Tryd.ntmps4
  go_wp2_with fail
  refine (bytes_4 s w (by omega)).mono ?_
  rintro e w' ⟨q, rfl, rfl⟩
  cases q with
  | false =>
    go_wp2_with fail
    go_ret
    exact ⟨rfl, Below.refl _ _⟩
  | true =>
    go_wp2_with fail
    refine (HP.out w' HE.out).mono ?_
    rintro e w1 ⟨er1, rfl, hb1, h1⟩
    obtain ⟨x1, rfl⟩ := h1.no
    have HE1 := (show Hid (Errs pr ps w1) from HE.out.below hb1)
    go_wp2_with fail
    refine (HP2.out w1 HE1.out).mono ?_
    rintro e w2 ⟨er2, rfl, hb2, h2⟩
    obtain ⟨x2, rfl⟩ := h2.no
    go_wp2_with fail
    refine (HS.out w2).mono ?_
    rintro e w3 ⟨rfl, rfl⟩
    go_wp2_with fail
    go_ret
    exact ⟨rfl, hb1.trans (hb2.mono hb1.size)⟩

set_option maxHeartbeats 1000000 in
set_option maxRecDepth 100000 in
theorem neg_syn (pr ps : Addr) (s : ByteArray) (a : Int) (w : World) (hE : Errs pr ps w) (hz : (0 : Int) < s.size) (hm : s.size ≤ 65536) (cc : Int) (h43 : (cc == 43) = false) (h45 : (cc == 45) = false) (hidx : ∀ w, (Instr.index 9 (.string s) (.int .i64 0)).run Tryd.prog w = .ok (.int .u8 cc) w) (hP : ParseIs pr ps s 0 false) (hP2 : ParseIs pr ps ((⟨#[45]⟩ : ByteArray) ++ s) 0 false) (hS : DigitsAre s a 1) :
    Calls Tryd.prog 4 #[.string s] w (Holds w) := by
  have HE := (show Hid (Errs pr ps w) from hE)
  have HP := (show Hid _ from hP)
  have HP2 := (show Hid _ from hP2)
  have HS := (show Hid _ from hS)
  clear hE hP hP2 hS
  go_enter Tryd.func4, Tryd.ntmps4
  go_wp2_with fail
  refine (bytes_4 s w (by omega)).mono ?_
  rintro e w' ⟨q, rfl, rfl⟩
  cases q with
  | false =>
    go_wp2_with fail
    go_ret
    exact ⟨rfl, Below.refl _ _⟩
  | true =>
    go_wp2_with fail
    refine (HP.out w' HE.out).mono ?_
    rintro e w1 ⟨er1, rfl, hb1, h1⟩
    obtain ⟨x1, rfl⟩ := h1.no
    have HE1 := (show Hid (Errs pr ps w1) from HE.out.below hb1)
    go_wp2_with fail
    refine (HP2.out w1 HE1.out).mono ?_
    rintro e w2 ⟨er2, rfl, hb2, h2⟩
    obtain ⟨x2, rfl⟩ := h2.no
    go_wp2_with fail
    refine (HS.out w2).mono ?_
    rintro e w3 ⟨rfl, rfl⟩
    go_wp2_with fail
    go_ret
    exact ⟨rfl, hb1.trans (hb2.mono hb1.size)⟩

set_option maxHeartbeats 1000000 in
set_option maxRecDepth 100000 in
theorem neg_big (pr ps : Addr) (s : ByteArray) (a : Int) (w : World) (hE : Errs pr ps w) (hz : (0 : Int) < s.size) (hm : s.size ≤ 65536) (cc : Int) (h43 : (cc == 43) = false) (h45 : (cc == 45) = false) (hidx : ∀ w, (Instr.index 9 (.string s) (.int .i64 0)).run Tryd.prog w = .ok (.int .u8 cc) w) (hP : ParseIs pr ps s 9223372036854775807 false) (hP2 : ParseIs pr ps ((⟨#[45]⟩ : ByteArray) ++ s) (-9223372036854775808) false) (hS : DigitsAre s a 2) :
    Calls Tryd.prog 4 #[.string s] w (Holds w) := by
  have HE := (show Hid (Errs pr ps w) from hE)
  have HP := (show Hid _ from hP)
  have HP2 := (show Hid _ from hP2)
  have HS := (show Hid _ from hS)
  clear hE hP hP2 hS
  go_enter Tryd.func4, Tryd.ntmps4
  go_wp2_with fail
  refine (bytes_4 s w (by omega)).mono ?_
  rintro e w' ⟨q, rfl, rfl⟩
  cases q with
  | false =>
    go_wp2_with fail
    go_ret
    exact ⟨rfl, Below.refl _ _⟩
  | true =>
    go_wp2_with fail
    refine (HP.out w' HE.out).mono ?_
    rintro e w1 ⟨er1, rfl, hb1, h1⟩
    obtain ⟨x1, rfl⟩ := h1.no
    have HE1 := (show Hid (Errs pr ps w1) from HE.out.below hb1)
    go_wp2_with fail
    refine (HP2.out w1 HE1.out).mono ?_
    rintro e w2 ⟨er2, rfl, hb2, h2⟩
    obtain ⟨x2, rfl⟩ := h2.no
    go_wp2_with fail
    refine (HS.out w2).mono ?_
    rintro e w3 ⟨rfl, rfl⟩
    go_wp2_with fail
    go_ret
    exact ⟨rfl, hb1.trans (hb2.mono hb1.size)⟩

set_option maxHeartbeats 1000000 in
set_option maxRecDepth 100000 in
theorem neg_over (pr ps : Addr) (s : ByteArray) (a : Int) (w : World) (hE : Errs pr ps w) (hz : (0 : Int) < s.size) (hm : s.size ≤ 65536) (cc : Int) (h43 : (cc == 43) = false) (h45 : (cc == 45) = false) (hidx : ∀ w, (Instr.index 9 (.string s) (.int .i64 0)).run Tryd.prog w = .ok (.int .u8 cc) w) (h : 9223372036854775808 < a) (hP : ParseIs pr ps s 9223372036854775807 false) (hP2 : ParseIs pr ps ((⟨#[45]⟩ : ByteArray) ++ s) (-9223372036854775808) false) (hS : DigitsAre s a 0) :
    Calls Tryd.prog 4 #[.string s] w (Holds w) := by
  have HE := (show Hid (Errs pr ps w) from hE)
  have HP := (show Hid _ from hP)
  have HP2 := (show Hid _ from hP2)
  have HS := (show Hid _ from hS)
  clear hE hP hP2 hS
  go_enter Tryd.func4, Tryd.ntmps4
  go_wp2_with fail
  refine (bytes_4 s w (by omega)).mono ?_
  rintro e w' ⟨q, rfl, rfl⟩
  cases q with
  | false =>
    go_wp2_with fail
    go_ret
    exact ⟨rfl, Below.refl _ _⟩
  | true =>
    go_wp2_with fail
    refine (HP.out w' HE.out).mono ?_
    rintro e w1 ⟨er1, rfl, hb1, h1⟩
    obtain ⟨x1, rfl⟩ := h1.no
    have HE1 := (show Hid (Errs pr ps w1) from HE.out.below hb1)
    go_wp2_with fail
    refine (HP2.out w1 HE1.out).mono ?_
    rintro e w2 ⟨er2, rfl, hb2, h2⟩
    obtain ⟨x2, rfl⟩ := h2.no
    go_wp2_with fail
    refine (HS.out w2).mono ?_
    rintro e w3 ⟨rfl, rfl⟩
    go_wp2_with fail
    go_ret
    exact ⟨rfl, hb1.trans (hb2.mono hb1.size)⟩

set_option maxHeartbeats 1000000 in
set_option maxRecDepth 100000 in
theorem neg_end (pr ps : Addr) (s : ByteArray) (w : World) (hE : Errs pr ps w) (hz : (0 : Int) < s.size) (hm : s.size ≤ 65536) (cc : Int) (h43 : (cc == 43) = false) (h45 : (cc == 45) = false) (hidx : ∀ w, (Instr.index 9 (.string s) (.int .i64 0)).run Tryd.prog w = .ok (.int .u8 cc) w) (hP : ParseIs pr ps s 9223372036854775807 false) (hP2 : ParseIs pr ps ((⟨#[45]⟩ : ByteArray) ++ s) (-9223372036854775808) true) (hS : DigitsAre s 9223372036854775808 0) :
    Calls Tryd.prog 4 #[.string s] w (Holds w) := by
  have HE := (show Hid (Errs pr ps w) from hE)
  have HP := (show Hid _ from hP)
  have HP2 := (show Hid _ from hP2)
  have HS := (show Hid _ from hS)
  clear hE hP hP2 hS
  go_enter Tryd.func4, Tryd.ntmps4
  go_wp2_with fail
  refine (bytes_4 s w (by omega)).mono ?_
  rintro e w' ⟨q, rfl, rfl⟩
  cases q with
  | false =>
    go_wp2_with fail
    go_ret
    exact ⟨rfl, Below.refl _ _⟩
  | true =>
    go_wp2_with fail
    refine (HP.out w' HE.out).mono ?_
    rintro e w1 ⟨er1, rfl, hb1, h1⟩
    obtain ⟨x1, rfl⟩ := h1.no
    have HE1 := (show Hid (Errs pr ps w1) from HE.out.below hb1)
    go_wp2_with fail
    refine (HP2.out w1 HE1.out).mono ?_
    rintro e w2 ⟨er2, rfl, hb2, h2⟩
    obtain rfl := h2.yes
    go_wp2_with fail
    refine (HS.out w2).mono ?_
    rintro e w3 ⟨rfl, rfl⟩
    go_wp2_with fail
    go_ret
    exact ⟨rfl, hb1.trans (hb2.mono hb1.size)⟩

set_option maxHeartbeats 1000000 in
set_option maxRecDepth 100000 in
theorem neg_fit (pr ps : Addr) (s : ByteArray) (a : Int) (w : World) (hE : Errs pr ps w) (hz : (0 : Int) < s.size) (hm : s.size ≤ 65536) (cc : Int) (h43 : (cc == 43) = false) (h45 : (cc == 45) = false) (hidx : ∀ w, (Instr.index 9 (.string s) (.int .i64 0)).run Tryd.prog w = .ok (.int .u8 cc) w) (ha0 : 0 ≤ a) (ha1 : a < 9223372036854775808) (hP : ParseIs pr ps s a true) (hP2 : ParseIs pr ps ((⟨#[45]⟩ : ByteArray) ++ s) (-a) true) (hS : DigitsAre s a 0) :
    Calls Tryd.prog 4 #[.string s] w (Holds w) := by
  have HE := (show Hid (Errs pr ps w) from hE)
  have HP := (show Hid _ from hP)
  have HP2 := (show Hid _ from hP2)
  have HS := (show Hid _ from hS)
  have heq : (a == a) = true := by simp
  have heq2 : (-a == -a) = true := by simp
  clear hE hP hP2 hS
  go_enter Tryd.func4, Tryd.ntmps4
  go_wp2_with fail
  refine (bytes_4 s w (by omega)).mono ?_
  rintro e w' ⟨q, rfl, rfl⟩
  cases q with
  | false =>
    go_wp2_with fail
    go_ret
    exact ⟨rfl, Below.refl _ _⟩
  | true =>
    go_wp2_with fail
    refine (HP.out w' HE.out).mono ?_
    rintro e w1 ⟨er1, rfl, hb1, h1⟩
    obtain rfl := h1.yes
    have HE1 := (show Hid (Errs pr ps w1) from HE.out.below hb1)
    go_wp2_with fail
    refine (HP2.out w1 HE1.out).mono ?_
    rintro e w2 ⟨er2, rfl, hb2, h2⟩
    obtain rfl := h2.yes
    go_wp2_with fail
    refine (HS.out w2).mono ?_
    rintro e w3 ⟨rfl, rfl⟩
    go_wp2_with fail
    go_ret
    exact ⟨rfl, hb1.trans (hb2.mono hb1.size)⟩

set_option maxHeartbeats 1000000 in
set_option maxRecDepth 100000 in
theorem neg_empty (pr ps : Addr) (a : Int) (w : World) (hE : Errs pr ps w) (hP : ParseIs pr ps ByteArray.empty 0 false) (hP2 : ParseIs pr ps ((⟨#[45]⟩ : ByteArray) ++ ByteArray.empty) 0 false) (hS : DigitsAre ByteArray.empty a 1) :
    Calls Tryd.prog 4 #[.string ByteArray.empty] w (Holds w) := by
  have HE := (show Hid (Errs pr ps w) from hE)
  have HP := (show Hid _ from hP)
  have HP2 := (show Hid _ from hP2)
  have HS := (show Hid _ from hS)
  clear hE hP hP2 hS
  go_enter Tryd.func4, Tryd.ntmps4
  go_wp2_with fail
  refine (bytes_4 ByteArray.empty w (by decide)).mono ?_
  rintro e w' ⟨q, rfl, rfl⟩
  cases q with
  | false =>
    go_wp2_with fail
    go_ret
    exact ⟨rfl, Below.refl _ _⟩
  | true =>
    go_wp2_with fail
    refine (HP.out w' HE.out).mono ?_
    rintro e w1 ⟨er1, rfl, hb1, h1⟩
    obtain ⟨x1, rfl⟩ := h1.no
    have HE1 := (show Hid (Errs pr ps w1) from HE.out.below hb1)
    go_wp2_with fail
    refine (HP2.out w1 HE1.out).mono ?_
    rintro e w2 ⟨er2, rfl, hb2, h2⟩
    obtain ⟨x2, rfl⟩ := h2.no
    go_wp2_with fail
    refine (HS.out w2).mono ?_
    rintro e w3 ⟨rfl, rfl⟩
    go_wp2_with fail
    go_ret
    exact ⟨rfl, hb1.trans (hb2.mono hb1.size)⟩

set_option maxHeartbeats 400000 in
set_option maxRecDepth 100000 in
theorem neg_long (s : ByteArray) (w : World) (hm : s.size ≤ 9223372036854775807) (hl : ¬ s.size ≤ 65536) : Calls Tryd.prog 4 #[.string s] w (Holds w) := by
  go_enter Tryd.func4, Tryd.ntmps4
  go_wp2_with fail
  refine (bytes_4 s w hm).mono ?_
  rintro e w' ⟨q, rfl, rfl⟩
  cases q with
  | false =>
    go_wp2_with fail
    go_ret
    exact ⟨rfl, Below.refl _ _⟩
  | true =>
    go_wp2_with fail
    go_ret
    exact ⟨rfl, Below.refl _ _⟩

/-- FnParseIntMinusNegates. -/
theorem neg_any (pr ps : Addr) (s : ByteArray) (w : World) (hm : s.size ≤ 9223372036854775807) (hE : Errs pr ps w) : Calls Tryd.prog 4 #[.string s] w (Holds w) := by
  by_cases hlong : ¬ s.size ≤ 65536
  · exact neg_long s w hm hlong
  have hl : s.size ≤ 65536 := by omega
  have hP := parse_is pr ps s (by omega)
  have hP2 := parse_is pr ps ((⟨#[45]⟩ : ByteArray) ++ s) (by rw [cat_size]; omega)
  rw [cat_list] at hP2
  have hS := signed_is s hl
  have hD := digits_are s (by omega)
  by_cases h0 : s.size = 0
  · obtain rfl : s = ByteArray.empty := ByteArray.size_eq_zero_iff.1 h0
    exact neg_empty pr ps 0 w hE hP hP2 hD
  have hz : (0 : Int) < s.size := by omega
  obtain ⟨c, d, hc, hd, hidx, h255, hsl⟩ := head_of (s := s) (by omega)
  by_cases h45 : c = 45
  · subst h45
    have e2 := minus_sign d.data.toList (c := 45) (.inr rfl)
    rw [← hc] at e2
    rw [e2.1, e2.2] at hP2
    cases hok : okOf s.data.toList with
    | true => rw [hok] at hP hS; exact neg_45_ok pr ps s _ w hE hz hl hidx hP hP2 hS
    | false => rw [hok] at hP hS; exact neg_45_no pr ps s _ w hE hz hl hidx hP hP2 hS
  by_cases h43 : c = 43
  · subst h43
    have e2 := minus_sign d.data.toList (c := 43) (.inl rfl)
    rw [← hc] at e2
    rw [e2.1, e2.2] at hP2
    cases hok : okOf s.data.toList with
    | true => rw [hok] at hP hS; exact neg_43_ok pr ps s _ w hE hz hl hidx hP hP2 hS
    | false => rw [hok] at hP hS; exact neg_43_no pr ps s _ w hE hz hl hidx hP hP2 hS
  · have e43 : c.toNat ≠ 43 := fun e => h43 (UInt8.toNat_inj.1 e)
    have e45 : c.toNat ≠ 45 := fun e => h45 (UInt8.toNat_inj.1 e)
    have hs : Signless s.data.toList := fun c' r' e => by
      rw [hc] at e
      injection e with e _
      subst e
      exact ⟨e43, e45⟩
    have b43 : ((c.toNat : Int) == 43) = false := beq_no (by omega)
    have b45 : ((c.toNat : Int) == 45) = false := beq_no (by omega)
    obtain ⟨p1, p2, p3, p4⟩ := pos_signless hs
    obtain ⟨q1, q2, q3, q4⟩ := neg_minus s.data.toList
    obtain ⟨n0, n1⟩ := num_bounds s.data.toList
    generalize numOf s.data.toList = a at hD n0 n1 p3 p4 q3 q4
    rcases cls_three s.data.toList with h | h | h
    · rw [h] at hD
      rcases Int.lt_trichotomy a 9223372036854775808 with h1 | h1 | h1
      · rw [(p4 h (by omega)).1, (p4 h (by omega)).2] at hP
        rw [(q4 h (by omega)).1, (q4 h (by omega)).2] at hP2
        exact neg_fit pr ps s a w hE hz hl _ b43 b45 hidx n0 h1 hP hP2 hD
      · subst h1
        rw [(p3 h (by omega)).1, (p3 h (by omega)).2] at hP
        rw [(q4 h (by omega)).1, (q4 h (by omega)).2] at hP2
        exact neg_end pr ps s w hE hz hl _ b43 b45 hidx hP hP2 hD
      · rw [(p3 h (by omega)).1, (p3 h (by omega)).2] at hP
        rw [(q3 h h1).1, (q3 h h1).2] at hP2
        exact neg_over pr ps s a w hE hz hl _ b43 b45 hidx h1 hP hP2 hD
    · rw [h] at hD
      rw [(p1 h).1, (p1 h).2] at hP
      rw [(q1 h).1, (q1 h).2] at hP2
      exact neg_syn pr ps s a w hE hz hl _ b43 b45 hidx hP hP2 hD
    · rw [h] at hD
      rw [(p2 h).1, (p2 h).2] at hP
      rw [(q2 h).1, (q2 h).2] at hP2
      exact neg_big pr ps s a w hE hz hl _ b43 b45 hidx hP hP2 hD
end Go.Proofs.Qxb6614300aDoor
