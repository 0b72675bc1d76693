/-
  THE WALKS, 4: FnParseIntReadsSignedDecimal.
-/
import Derived.Test.Qxb6614300aDoorWalks3
namespace Go.Proofs.Qxb6614300aDoor
open Go.RowKit

/-- No error, or a reason. -/
def ErrIs (ok : Bool) (er : Value) : Prop := (ok = true ∧ er = .nilIface) ∨ (ok = false ∧ ∃ x, er = .iface 38 (.string x))
theorem ErrIs.yes {er : Value} (h : ErrIs true er) : er = .nilIface := by
  rcases h with ⟨_, h⟩ | ⟨h, _⟩
  · exact h
  · cases h
theorem ErrIs.no {er : Value} (h : ErrIs false er) : ∃ x, er = .iface 38 (.string x) := by
  rcases h with ⟨h, _⟩ | ⟨_, h⟩
  · cases h
  · exact h

/-- What ZZparseInt answers at s, as a premise. -/
def ParseIs (pr ps : Addr) (s : ByteArray) (v : Int) (ok : Bool) : Prop := ∀ w, Errs pr ps w → Calls Tryd.prog 6 #[.string s] w fun e w' => ∃ er, e = .returned (.tuple #[.int .i64 v, er]) ∧ Below w.heap.size w w' ∧ ErrIs ok er
theorem parse_is (pr ps : Addr) (s : ByteArray) (hm : s.size ≤ 70000) : ParseIs pr ps s (valOf s.data.toList) (okOf s.data.toList) := fun w hE => zz_any pr ps s w hm hE
def SignedIs (s : ByteArray) (v : Int) (ok : Bool) : Prop := ∀ w, Calls Tryd.prog 7 #[.string s] w fun e w' => e = .returned (.tuple #[.int .i64 v, .bool ok]) ∧ w' = w
theorem signed_is (s : ByteArray) (hm : s.size ≤ 65536) : SignedIs s (valOf s.data.toList) (okOf s.data.toList) := fun w => signed_any s w hm

/-- The law's end. -/
def Holds (w : World) (e : Ending) (w' : World) : Prop := e = .returned (.bool true) ∧ Below w.heap.size w w'

set_option maxHeartbeats 400000 in
set_option maxRecDepth 100000 in
theorem reads_43_ok (pr ps : Addr) (s : ByteArray) (v : Int) (w : World) (hE : Errs pr ps w) (hz : (0 : Int) < s.size) (hm : s.size ≤ 65536) (hidx : ∀ w, (Instr.index 9 (.string s) (.int .i64 0)).run Tryd.prog w = .ok (.int .u8 43) w) (hP : ParseIs pr ps s v true) (hP2 : ParseIs pr ps ((⟨#[43]⟩ : ByteArray) ++ s) 0 false) (hS : SignedIs s v true) :
    Calls Tryd.prog 3 #[.string s] w (Holds w) := by
  have HE := (show Hid (Errs pr ps w) from hE)
  have HP := (show Hid _ from hP)
  have HP2 := (show Hid _ from hP2)
  have HS := (show Hid _ from hS)
  have hne : (v != v) = false := by simp
  have heq : (v == v) = true := by simp
  clear hE hP hP2 hS
  go_enter Tryd.func3, Tryd.ntmps3
  go_wp2_with fail
  refine (bytes_3 s w (by omega)).mono ?_
  rintro e w' ⟨q, rfl, rfl⟩
  cases q with
  | false =>
    go_wp2_with fail
    go_ret
    exact ⟨rfl, Below.refl _ _⟩
  | true =>
    go_wp2_with fail
    refine (HP.out w' HE.out).mono ?_
    rintro e w1 ⟨er1, rfl, hb1, h1⟩
    obtain rfl := h1.yes
    have HE1 := (show Hid (Errs pr ps w1) from HE.out.below hb1)
    go_wp2_with fail
    refine (HP2.out w1 HE1.out).mono ?_
    rintro e w2 ⟨er2, rfl, hb2, h2⟩
    obtain ⟨x2, rfl⟩ := h2.no
    go_wp2_with fail
    refine (HS.out w2).mono ?_
    rintro e w3 ⟨rfl, rfl⟩
    go_wp2_with fail
    go_ret
    exact ⟨rfl, hb1.trans (hb2.mono hb1.size)⟩

set_option maxHeartbeats 400000 in
set_option maxRecDepth 100000 in
theorem reads_45_ok (pr ps : Addr) (s : ByteArray) (v : Int) (w : World) (hE : Errs pr ps w) (hz : (0 : Int) < s.size) (hm : s.size ≤ 65536) (hidx : ∀ w, (Instr.index 9 (.string s) (.int .i64 0)).run Tryd.prog w = .ok (.int .u8 45) w) (hP : ParseIs pr ps s v true) (hP2 : ParseIs pr ps ((⟨#[43]⟩ : ByteArray) ++ s) 0 false) (hS : SignedIs s v true) :
    Calls Tryd.prog 3 #[.string s] w (Holds w) := by
  have HE := (show Hid (Errs pr ps w) from hE)
  have HP := (show Hid _ from hP)
  have HP2 := (show Hid _ from hP2)
  have HS := (show Hid _ from hS)
  have hne : (v != v) = false := by simp
  have heq : (v == v) = true := by simp
  clear hE hP hP2 hS
  go_enter Tryd.func3, Tryd.ntmps3
  go_wp2_with fail
  refine (bytes_3 s w (by omega)).mono ?_
  rintro e w' ⟨q, rfl, rfl⟩
  cases q with
  | false =>
    go_wp2_with fail
    go_ret
    exact ⟨rfl, Below.refl _ _⟩
  | true =>
    go_wp2_with fail
    refine (HP.out w' HE.out).mono ?_
    rintro e w1 ⟨er1, rfl, hb1, h1⟩
    obtain rfl := h1.yes
    have HE1 := (show Hid (Errs pr ps w1) from HE.out.below hb1)
    go_wp2_with fail
    refine (HP2.out w1 HE1.out).mono ?_
    rintro e w2 ⟨er2, rfl, hb2, h2⟩
    obtain ⟨x2, rfl⟩ := h2.no
    go_wp2_with fail
    refine (HS.out w2).mono ?_
    rintro e w3 ⟨rfl, rfl⟩
    go_wp2_with fail
    go_ret
    exact ⟨rfl, hb1.trans (hb2.mono hb1.size)⟩

set_option maxHeartbeats 400000 in
set_option maxRecDepth 100000 in
theorem reads_plain_ok (pr ps : Addr) (s : ByteArray) (v : Int) (w : World) (hE : Errs pr ps w) (hz : (0 : Int) < s.size) (hm : s.size ≤ 65536) (cc : Int) (h43 : (cc == 43) = false) (h45 : (cc == 45) = false) (hidx : ∀ w, (Instr.index 9 (.string s) (.int .i64 0)).run Tryd.prog w = .ok (.int .u8 cc) w) (hP : ParseIs pr ps s v true) (hP2 : ParseIs pr ps ((⟨#[43]⟩ : ByteArray) ++ s) v true) (hS : SignedIs s v true) :
    Calls Tryd.prog 3 #[.string s] w (Holds w) := by
  have HE := (show Hid (Errs pr ps w) from hE)
  have HP := (show Hid _ from hP)
  have HP2 := (show Hid _ from hP2)
  have HS := (show Hid _ from hS)
  have hne : (v != v) = false := by simp
  have heq : (v == v) = true := by simp
  clear hE hP hP2 hS
  go_enter Tryd.func3, Tryd.ntmps3
  go_wp2_with fail
  refine (bytes_3 s w (by omega)).mono ?_
  rintro e w' ⟨q, rfl, rfl⟩
  cases q with
  | false =>
    go_wp2_with fail
    go_ret
    exact ⟨rfl, Below.refl _ _⟩
  | true =>
    go_wp2_with fail
    refine (HP.out w' HE.out).mono ?_
    rintro e w1 ⟨er1, rfl, hb1, h1⟩
    obtain rfl := h1.yes
    have HE1 := (show Hid (Errs pr ps w1) from HE.out.below hb1)
    go_wp2_with fail
    refine (HP2.out w1 HE1.out).mono ?_
    rintro e w2 ⟨er2, rfl, hb2, h2⟩
    obtain rfl := h2.yes
    go_wp2_with fail
    refine (HS.out w2).mono ?_
    rintro e w3 ⟨rfl, rfl⟩
    go_wp2_with fail
    go_ret
    exact ⟨rfl, hb1.trans (hb2.mono hb1.size)⟩

set_option maxHeartbeats 400000 in
set_option maxRecDepth 100000 in
theorem reads_43_no (pr ps : Addr) (s : ByteArray) (v : Int) (w : World) (hE : Errs pr ps w) (hz : (0 : Int) < s.size) (hm : s.size ≤ 65536) (hidx : ∀ w, (Instr.index 9 (.string s) (.int .i64 0)).run Tryd.prog w = .ok (.int .u8 43) w) (hP : ParseIs pr ps s v false) (hP2 : ParseIs pr ps ((⟨#[43]⟩ : ByteArray) ++ s) 0 false) (hS : SignedIs s v false) :
    Calls Tryd.prog 3 #[.string s] w (Holds w) := by
  have HE := (show Hid (Errs pr ps w) from hE)
  have HP := (show Hid _ from hP)
  have HP2 := (show Hid _ from hP2)
  have HS := (show Hid _ from hS)
  have hne : (v != v) = false := by simp
  have heq : (v == v) = true := by simp
  clear hE hP hP2 hS
  go_enter Tryd.func3, Tryd.ntmps3
  go_wp2_with fail
  refine (bytes_3 s w (by omega)).mono ?_
  rintro e w' ⟨q, rfl, rfl⟩
  cases q with
  | false =>
    go_wp2_with fail
    go_ret
    exact ⟨rfl, Below.refl _ _⟩
  | true =>
    go_wp2_with fail
    refine (HP.out w' HE.out).mono ?_
    rintro e w1 ⟨er1, rfl, hb1, h1⟩
    obtain ⟨x1, rfl⟩ := h1.no
    have HE1 := (show Hid (Errs pr ps w1) from HE.out.below hb1)
    go_wp2_with fail
    refine (HP2.out w1 HE1.out).mono ?_
    rintro e w2 ⟨er2, rfl, hb2, h2⟩
    obtain ⟨x2, rfl⟩ := h2.no
    go_wp2_with fail
    refine (HS.out w2).mono ?_
    rintro e w3 ⟨rfl, rfl⟩
    go_wp2_with fail
    go_ret
    exact ⟨rfl, hb1.trans (hb2.mono hb1.size)⟩

set_option maxHeartbeats 400000 in
set_option maxRecDepth 100000 in
theorem reads_45_no (pr ps : Addr) (s : ByteArray) (v : Int) (w : World) (hE : Errs pr ps w) (hz : (0 : Int) < s.size) (hm : s.size ≤ 65536) (hidx : ∀ w, (Instr.index 9 (.string s) (.int .i64 0)).run Tryd.prog w = .ok (.int .u8 45) w) (hP : ParseIs pr ps s v false) (hP2 : ParseIs pr ps ((⟨#[43]⟩ : ByteArray) ++ s) 0 false) (hS : SignedIs s v false) :
    Calls Tryd.prog 3 #[.string s] w (Holds w) := by
  have HE := (show Hid (Errs pr ps w) from hE)
  have HP := (show Hid _ from hP)
  have HP2 := (show Hid _ from hP2)
  have HS := (show Hid _ from hS)
  have hne : (v != v) = false := by simp
  have heq : (v == v) = true := by simp
  clear hE hP hP2 hS
  go_enter Tryd.func3, Tryd.ntmps3
  go_wp2_with fail
  refine (bytes_3 s w (by omega)).mono ?_
  rintro e w' ⟨q, rfl, rfl⟩
  cases q with
  | false =>
    go_wp2_with fail
    go_ret
    exact ⟨rfl, Below.refl _ _⟩
  | true =>
    go_wp2_with fail
    refine (HP.out w' HE.out).mono ?_
    rintro e w1 ⟨er1, rfl, hb1, h1⟩
    obtain ⟨x1, rfl⟩ := h1.no
    have HE1 := (show Hid (Errs pr ps w1) from HE.out.below hb1)
    go_wp2_with fail
    refine (HP2.out w1 HE1.out).mono ?_
    rintro e w2 ⟨er2, rfl, hb2, h2⟩
    obtain ⟨x2, rfl⟩ := h2.no
    go_wp2_with fail
    refine (HS.out w2).mono ?_
    rintro e w3 ⟨rfl, rfl⟩
    go_wp2_with fail
    go_ret
    exact ⟨rfl, hb1.trans (hb2.mono hb1.size)⟩

set_option maxHeartbeats 400000 in
set_option maxRecDepth 100000 in
theorem reads_plain_no (pr ps : Addr) (s : ByteArray) (v : Int) (w : World) (hE : Errs pr ps w) (hz : (0 : Int) < s.size) (hm : s.size ≤ 65536) (cc : Int) (h43 : (cc == 43) = false) (h45 : (cc == 45) = false) (hidx : ∀ w, (Instr.index 9 (.string s) (.int .i64 0)).run Tryd.prog w = .ok (.int .u8 cc) w) (hP : ParseIs pr ps s v false) (hP2 : ParseIs pr ps ((⟨#[43]⟩ : ByteArray) ++ s) v false) (hS : SignedIs s v false) :
    Calls Tryd.prog 3 #[.string s] w (Holds w) := by
  have HE := (show Hid (Errs pr ps w) from hE)
  have HP := (show Hid _ from hP)
  have HP2 := (show Hid _ from hP2)
  have HS := (show Hid _ from hS)
  have hne : (v != v) = false := by simp
  have heq : (v == v) = true := by simp
  clear hE hP hP2 hS
  go_enter Tryd.func3, Tryd.ntmps3
  go_wp2_with fail
  refine (bytes_3 s w (by omega)).mono ?_
  rintro e w' ⟨q, rfl, rfl⟩
  cases q with
  | false =>
    go_wp2_with fail
    go_ret
    exact ⟨rfl, Below.refl _ _⟩
  | true =>
    go_wp2_with fail
    refine (HP.out w' HE.out).mono ?_
    rintro e w1 ⟨er1, rfl, hb1, h1⟩
    obtain ⟨x1, rfl⟩ := h1.no
    have HE1 := (show Hid (Errs pr ps w1) from HE.out.below hb1)
    go_wp2_with fail
    refine (HP2.out w1 HE1.out).mono ?_
    rintro e w2 ⟨er2, rfl, hb2, h2⟩
    obtain ⟨x2, rfl⟩ := h2.no
    go_wp2_with fail
    refine (HS.out w2).mono ?_
    rintro e w3 ⟨rfl, rfl⟩
    go_wp2_with fail
    go_ret
    exact ⟨rfl, hb1.trans (hb2.mono hb1.size)⟩

set_option maxHeartbeats 400000 in
set_option maxRecDepth 100000 in
theorem reads_empty (pr ps : Addr) (v : Int) (w : World) (hE : Errs pr ps w) (hP : ParseIs pr ps ByteArray.empty v false) (hP2 : ParseIs pr ps ((⟨#[43]⟩ : ByteArray) ++ ByteArray.empty) v false) (hS : SignedIs ByteArray.empty v false) :
    Calls Tryd.prog 3 #[.string ByteArray.empty] w (Holds w) := by
  have HE := (show Hid (Errs pr ps w) from hE)
  have HP := (show Hid _ from hP)
  have HP2 := (show Hid _ from hP2)
  have HS := (show Hid _ from hS)
  have hne : (v != v) = false := by simp
  have heq : (v == v) = true := by simp
  clear hE hP hP2 hS
  go_enter Tryd.func3, Tryd.ntmps3
  go_wp2_with fail
  refine (bytes_3 ByteArray.empty w (by decide)).mono ?_
  rintro e w' ⟨q, rfl, rfl⟩
  cases q with
  | false =>
    go_wp2_with fail
    go_ret
    exact ⟨rfl, Below.refl _ _⟩
  | true =>
    go_wp2_with fail
    refine (HP.out w' HE.out).mono ?_
    rintro e w1 ⟨er1, rfl, hb1, h1⟩
    obtain ⟨x1, rfl⟩ := h1.no
    have HE1 := (show Hid (Errs pr ps w1) from HE.out.below hb1)
    go_wp2_with fail
    refine (HP2.out w1 HE1.out).mono ?_
    rintro e w2 ⟨er2, rfl, hb2, h2⟩
    obtain ⟨x2, rfl⟩ := h2.no
    go_wp2_with fail
    refine (HS.out w2).mono ?_
    rintro e w3 ⟨rfl, rfl⟩
    go_wp2_with fail
    go_ret
    exact ⟨rfl, hb1.trans (hb2.mono hb1.size)⟩

set_option maxHeartbeats 400000 in
set_option maxRecDepth 100000 in
theorem reads_long (s : ByteArray) (w : World) (hm : s.size ≤ 9223372036854775807) (hl : ¬ s.size ≤ 65536) : Calls Tryd.prog 3 #[.string s] w (Holds w) := by
  go_enter Tryd.func3, Tryd.ntmps3
  go_wp2_with fail
  refine (bytes_3 s w hm).mono ?_
  rintro e w' ⟨q, rfl, rfl⟩
  cases q with
  | false =>
    go_wp2_with fail
    go_ret
    exact ⟨rfl, Below.refl _ _⟩
  | true =>
    go_wp2_with fail
    go_ret
    exact ⟨rfl, Below.refl _ _⟩

theorem cat_list (c : UInt8) (s : ByteArray) : ((⟨#[c]⟩ : ByteArray) ++ s).data.toList = c :: s.data.toList := by
  rw [ByteArray.data_append, Array.toList_append]
  rfl
theorem cat_size (c : UInt8) (s : ByteArray) : ((⟨#[c]⟩ : ByteArray) ++ s).size = 1 + s.size := by
  rw [ByteArray.size_append]
  rfl

theorem plus_sign {c : UInt8} (r : List UInt8) (h : c.toNat = 43 ∨ c.toNat = 45) : valOf (43 :: c :: r) = 0 ∧ okOf (43 :: c :: r) = false :=
  (pos_plus (c :: r)).1 (cls_sign h r)
theorem minus_sign {c : UInt8} (r : List UInt8) (h : c.toNat = 43 ∨ c.toNat = 45) : valOf (45 :: c :: r) = 0 ∧ okOf (45 :: c :: r) = false :=
  (neg_minus (c :: r)).1 (cls_sign h r)
theorem plus_same {d : List UInt8} (h : Signless d) : valOf (43 :: d) = valOf d ∧ okOf (43 :: d) = okOf d :=
  (pos_plus d).same (pos_signless h)

/-- FnParseIntReadsSignedDecimal. -/
theorem reads_any (pr ps : Addr) (s : ByteArray) (w : World) (hm : s.size ≤ 9223372036854775807) (hE : Errs pr ps w) : Calls Tryd.prog 3 #[.string s] w (Holds w) := by
  by_cases hlong : ¬ s.size ≤ 65536
  · exact reads_long s w hm hlong
  have hl : s.size ≤ 65536 := by omega
  have hP := parse_is pr ps s (by omega)
  have hP2 := parse_is pr ps ((⟨#[43]⟩ : ByteArray) ++ s) (by rw [cat_size]; omega)
  rw [cat_list] at hP2
  have hS := signed_is s hl
  by_cases h0 : s.size = 0
  · obtain rfl : s = ByteArray.empty := ByteArray.size_eq_zero_iff.1 h0
    exact reads_empty pr ps 0 w hE hP hP2 hS
  have hz : (0 : Int) < s.size := by omega
  obtain ⟨c, d, hc, hd, hidx, h255, hsl⟩ := head_of (s := s) (by omega)
  by_cases h45 : c = 45
  · subst h45
    have e2 := plus_sign d.data.toList (c := 45) (.inr rfl)
    rw [← hc] at e2
    rw [e2.1, e2.2] at hP2
    cases hok : okOf s.data.toList with
    | true => rw [hok] at hP hS; exact reads_45_ok pr ps s _ w hE hz hl hidx hP hP2 hS
    | false => rw [hok] at hP hS; exact reads_45_no pr ps s _ w hE hz hl hidx hP hP2 hS
  by_cases h43 : c = 43
  · subst h43
    have e2 := plus_sign d.data.toList (c := 43) (.inl rfl)
    rw [← hc] at e2
    rw [e2.1, e2.2] at hP2
    cases hok : okOf s.data.toList with
    | true => rw [hok] at hP hS; exact reads_43_ok pr ps s _ w hE hz hl hidx hP hP2 hS
    | false => rw [hok] at hP hS; exact reads_43_no pr ps s _ w hE hz hl hidx hP hP2 hS
  · have e43 : c.toNat ≠ 43 := fun e => h43 (UInt8.toNat_inj.1 e)
    have e45 : c.toNat ≠ 45 := fun e => h45 (UInt8.toNat_inj.1 e)
    have hs : Signless s.data.toList := fun c' r' e => by
      rw [hc] at e
      injection e with e _
      subst e
      exact ⟨e43, e45⟩
    obtain ⟨v1, v2⟩ := plus_same hs
    rw [v1, v2] at hP2
    cases hok : okOf s.data.toList with
    | true => rw [hok] at hP hS hP2; exact reads_plain_ok pr ps s _ w hE hz hl _ (beq_no (by omega)) (beq_no (by omega)) hidx hP hP2 hS
    | false => rw [hok] at hP hS hP2; exact reads_plain_no pr ps s _ w hE hz hl _ (beq_no (by omega)) (beq_no (by omega)) hidx hP hP2 hS
end Go.Proofs.Qxb6614300aDoor
