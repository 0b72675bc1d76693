/-
  THE PLAIN PART: what strconv.ParseInt(.., 10, 64) answers, in the laws' own words. No Go here.
-/
import Derived.Test.Qxb6614300aDoorShelf
import Derived.Lib.ParseIntBTie
namespace Go.Proofs.Qxb6614300aDoor
open Go.RowKit

/-- zzDigits: the value, and the kind of its ending. -/
def numOf (l : List UInt8) : Int := match Lib.parseMag l with | .ok u => (u : Int) | _ => 0
def clsOf (l : List UInt8) : Int := match Lib.parseMag l with | .ok _ => 0 | .range => 2 | _ => 1

/-- Behind k bytes: what is left to parse, and the number so far. -/
def Sofar (l : List UInt8) (k : Nat) (a : Int) : Prop := ∃ acc : Nat, a = acc ∧ acc < 18446744073709551616 ∧ Lib.parseUint10 0 l = Lib.parseUint10 acc (l.drop k)

theorem sofar_zero (l : List UInt8) : Sofar l 0 0 := ⟨0, rfl, by omega, rfl⟩

theorem Sofar.bounds {l : List UInt8} {k : Nat} {a : Int} (h : Sofar l k a) : 0 ≤ a ∧ a ≤ 18446744073709551615 := by
  obtain ⟨acc, rfl, h, _⟩ := h
  omega

theorem drop_cons {l : List UInt8} {k : Nat} {c : UInt8} (h : l[k]? = some c) : l.drop k = c :: l.drop (k + 1) := by
  obtain ⟨hk, rfl⟩ := List.getElem?_eq_some_iff.1 h
  exact List.drop_eq_getElem_cons hk

theorem Sofar.step {l : List UInt8} {k : Nat} {a : Int} {c : UInt8} (h : Sofar l k a) (hc : l[k]? = some c) (h1 : 48 ≤ (c.toNat : Int)) (h2 : (c.toNat : Int) ≤ 57) (h3 : a * 10 + ((c.toNat : Int) - 48) ≤ 18446744073709551615) : Sofar l (k + 1) (a * 10 + ((c.toNat : Int) - 48)) := by
  obtain ⟨acc, rfl, ha, he⟩ := h
  refine ⟨acc * 10 + (c.toNat - 48), by omega, by omega, ?_⟩
  rw [he, drop_cons hc]
  simp only [Lib.parseUint10]
  rw [if_pos (by omega), if_neg (by omega), if_neg (by omega)]

theorem parseMag_ne {l : List UInt8} (h : l ≠ []) : Lib.parseMag l = Lib.parseUint10 0 l := by
  unfold Lib.parseMag; rw [if_neg h]

theorem ne_of_at {l : List UInt8} {k : Nat} {c : UInt8} (hc : l[k]? = some c) : l ≠ [] := by
  rintro rfl; simp at hc

theorem Sofar.nodigit {l : List UInt8} {k : Nat} {a : Int} {c : UInt8} (h : Sofar l k a) (hc : l[k]? = some c) (h1 : ¬ (48 ≤ (c.toNat : Int) ∧ (c.toNat : Int) ≤ 57)) : numOf l = 0 ∧ clsOf l = 1 := by
  obtain ⟨acc, rfl, ha, he⟩ := h
  have e : Lib.parseMag l = Lib.parseUint10 acc (c :: l.drop (k + 1)) := by rw [parseMag_ne (ne_of_at hc), he, drop_cons hc]
  simp only [Lib.parseUint10] at e
  rw [if_neg (by omega)] at e
  unfold numOf clsOf
  rw [e]
  exact ⟨rfl, rfl⟩

theorem Sofar.over {l : List UInt8} {k : Nat} {a : Int} {c : UInt8} (h : Sofar l k a) (hc : l[k]? = some c) (h1 : 48 ≤ (c.toNat : Int)) (h2 : (c.toNat : Int) ≤ 57) (h3 : 18446744073709551615 < a * 10 + ((c.toNat : Int) - 48)) : numOf l = 0 ∧ clsOf l = 2 := by
  obtain ⟨acc, rfl, ha, he⟩ := h
  have e : Lib.parseMag l = Lib.parseUint10 acc (c :: l.drop (k + 1)) := by rw [parseMag_ne (ne_of_at hc), he, drop_cons hc]
  simp only [Lib.parseUint10] at e
  rw [if_pos (by omega)] at e
  have e2 : Lib.parseMag l = .range := by
    rw [e]
    by_cases h4 : 1844674407370955162 ≤ acc
    · rw [if_pos h4]
    · rw [if_neg h4, if_pos (by omega)]
  unfold numOf clsOf
  rw [e2]
  exact ⟨rfl, rfl⟩

theorem Sofar.fin {l : List UInt8} {k : Nat} {a : Int} (h : Sofar l k a) (hne : l ≠ []) (hk : l.length ≤ k) : numOf l = a ∧ clsOf l = 0 ∧ ∃ u : Nat, a = u ∧ Lib.parseMag l = .ok u := by
  obtain ⟨acc, rfl, ha, he⟩ := h
  have e : Lib.parseMag l = .ok acc := by
    rw [parseMag_ne hne, he, List.drop_eq_nil_of_le hk]; rfl
  unfold numOf clsOf
  rw [e]
  exact ⟨rfl, rfl, acc, rfl, rfl⟩

theorem empty_cls : numOf [] = 0 ∧ clsOf [] = 1 := ⟨rfl, rfl⟩

/-! ### by the sign -/
theorem cls_three (l : List UInt8) : clsOf l = 0 ∨ clsOf l = 1 ∨ clsOf l = 2 := by
  unfold clsOf
  cases Lib.parseMag l
  · exact .inl rfl
  · exact .inr (.inl rfl)
  · exact .inr (.inr rfl)

theorem num_bounds (l : List UInt8) : 0 ≤ numOf l ∧ numOf l ≤ 18446744073709551615 := by
  unfold numOf
  cases h : Lib.parseMag l
  · have := Lib.parseMag_lt h
    simp only []
    omega
  · simp only []
    omega
  · simp only []
    omega

/-- No sign leads. -/
def Signless (l : List UInt8) : Prop := ∀ c r, l = c :: r → c.toNat ≠ 43 ∧ c.toNat ≠ 45

/-- (value, accepted) behind no sign or '+', of the digits d. -/
def PosOf (d : List UInt8) (v : Int) (b : Bool) : Prop :=
  (clsOf d = 1 → v = 0 ∧ b = false) ∧ (clsOf d = 2 → v = 9223372036854775807 ∧ b = false) ∧ (clsOf d = 0 → 9223372036854775807 < numOf d → v = 9223372036854775807 ∧ b = false) ∧ (clsOf d = 0 → numOf d ≤ 9223372036854775807 → v = numOf d ∧ b = true)

/-- .. behind '-'. -/
def NegOf (d : List UInt8) (v : Int) (b : Bool) : Prop :=
  (clsOf d = 1 → v = 0 ∧ b = false) ∧ (clsOf d = 2 → v = -9223372036854775808 ∧ b = false) ∧ (clsOf d = 0 → 9223372036854775808 < numOf d → v = -9223372036854775808 ∧ b = false) ∧ (clsOf d = 0 → numOf d ≤ 9223372036854775808 → v = -numOf d ∧ b = true)

theorem e63 : (2 : Nat) ^ (64 - 1) = 9223372036854775808 := by decide

theorem pos_of {l d : List UInt8} (h1 : Lib.parseIntB 64 l = Lib.signlessC 9223372036854775808 (Lib.parseMag d)) (h2 : clsOf d ≠ 1 → Lib.intSat 64 l = 9223372036854775807) : PosOf d (valOf l) (okOf l) := by
  unfold PosOf valOf okOf clsOf numOf
  unfold clsOf at h2
  cases h : Lib.parseMag d <;> rw [h] at h1 h2 <;> simp only [Lib.signlessC] at h1
  · rename_i u
    refine ⟨fun h => by simp at h, fun h => by simp at h, fun _ h3 => ?_, fun _ h3 => ?_⟩
    · rw [if_pos (by simp only [] at h3; omega)] at h1
      rw [h1]
      exact ⟨h2 (by simp), rfl⟩
    · rw [if_neg (by simp only [] at h3; omega)] at h1
      rw [h1]
      exact ⟨rfl, rfl⟩
  · rw [h1]
    exact ⟨fun _ => ⟨rfl, rfl⟩, fun h => by simp at h, fun h => by simp at h, fun h => by simp at h⟩
  · rw [h1]
    exact ⟨fun h => by simp at h, fun _ => ⟨h2 (by simp), rfl⟩, fun h => by simp at h, fun h => by simp at h⟩

theorem neg_of {l d : List UInt8} (h1 : Lib.parseIntB 64 l = Lib.signedC 9223372036854775808 (Lib.parseMag d)) (h2 : Lib.intSat 64 l = -9223372036854775808) : NegOf d (valOf l) (okOf l) := by
  unfold NegOf valOf okOf clsOf numOf
  cases h : Lib.parseMag d <;> rw [h] at h1 <;> simp only [Lib.signedC] at h1
  · rename_i u
    refine ⟨fun h => by simp at h, fun h => by simp at h, fun _ h3 => ?_, fun _ h3 => ?_⟩
    · rw [if_pos (by simp only [] at h3; omega)] at h1
      rw [h1]
      exact ⟨h2, rfl⟩
    · rw [if_neg (by simp only [] at h3; omega)] at h1
      rw [h1]
      exact ⟨rfl, rfl⟩
  · rw [h1]
    exact ⟨fun _ => ⟨rfl, rfl⟩, fun h => by simp at h, fun h => by simp at h, fun h => by simp at h⟩
  · rw [h1]
    exact ⟨fun h => by simp at h, fun _ => ⟨h2, rfl⟩, fun h => by simp at h, fun h => by simp at h⟩

theorem satMax : ((9223372036854775808 - 1 : Nat) : Int) = 9223372036854775807 := by decide

theorem pos_signless {d : List UInt8} (h : Signless d) : PosOf d (valOf d) (okOf d) := by
  cases d with
  | nil => exact pos_of rfl (fun h => absurd empty_cls.2 h)
  | cons c r =>
    obtain ⟨h43, h45⟩ := h c r rfl
    exact pos_of (by rw [Lib.parseIntB_plain 64 c r h43 h45, Lib.parseUintB_64, e63]) (fun _ => by rw [Lib.intSat_other 64 c r h45, e63]; exact satMax)

theorem pos_plus (d : List UInt8) : PosOf d (valOf (43 :: d)) (okOf (43 :: d)) :=
  pos_of (by rw [Lib.parseIntB_plus, Lib.parseUintB_64, e63]) (fun _ => by rw [Lib.intSat_other 64 43 d (by decide), e63]; exact satMax)

theorem neg_minus (d : List UInt8) : NegOf d (valOf (45 :: d)) (okOf (45 :: d)) :=
  neg_of (by rw [Lib.parseIntB_minus, Lib.parseUintB_64, e63]) (by rw [Lib.intSat_minus, e63]; rfl)

theorem cls_sign {c : UInt8} (h : c.toNat = 43 ∨ c.toNat = 45) (r : List UInt8) : clsOf (c :: r) = 1 :=
  ((sofar_zero (c :: r)).nodigit (c := c) rfl (by omega)).2

theorem PosOf.same {d : List UInt8} {v v' : Int} {b b' : Bool} (h : PosOf d v b) (h' : PosOf d v' b') : v = v' ∧ b = b' := by
  obtain ⟨a1, a2, a3, a4⟩ := h
  obtain ⟨c1, c2, c3, c4⟩ := h'
  rcases cls_three d with h | h | h
  · by_cases hm : numOf d ≤ 9223372036854775807
    · exact ⟨(a4 h hm).1.trans (c4 h hm).1.symm, (a4 h hm).2.trans (c4 h hm).2.symm⟩
    · have hm : 9223372036854775807 < numOf d := by omega
      exact ⟨(a3 h hm).1.trans (c3 h hm).1.symm, (a3 h hm).2.trans (c3 h hm).2.symm⟩
  · exact ⟨(a1 h).1.trans (c1 h).1.symm, (a1 h).2.trans (c1 h).2.symm⟩
  · exact ⟨(a2 h).1.trans (c2 h).1.symm, (a2 h).2.trans (c2 h).2.symm⟩

/-! ### a string by its first byte -/
theorem data_cons {s : ByteArray} {c : UInt8} (h : s.data.toList[0]? = some c) : s.data.toList = c :: s.data.toList.drop 1 := by
  have := drop_cons h
  simpa using this

theorem val_bounds (l : List UInt8) : -9223372036854775808 ≤ valOf l ∧ valOf l ≤ 9223372036854775807 := by
  cases l with
  | nil => exact ⟨by show -9223372036854775808 ≤ (0 : Int); omega, by show (0 : Int) ≤ 9223372036854775807; omega⟩
  | cons c r =>
    by_cases h45 : c = 45
    · subst h45
      obtain ⟨a1, a2, a3, a4⟩ := neg_minus r
      have := num_bounds r
      rcases cls_three r with h | h | h
      · by_cases hm : numOf r ≤ 9223372036854775808
        · have := (a4 h hm).1; omega
        · have := (a3 h (by omega)).1; omega
      · have := (a1 h).1; omega
      · have := (a2 h).1; omega
    · have key : ∃ d, PosOf d (valOf (c :: r)) (okOf (c :: r)) := by
        by_cases h43 : c = 43
        · subst h43
          exact ⟨r, pos_plus r⟩
        · exact ⟨c :: r, pos_signless (fun c' r' e => by injection e with e _; subst e; exact ⟨fun e => h43 (UInt8.toNat_inj.1 e), fun e => h45 (UInt8.toNat_inj.1 e)⟩)⟩
      obtain ⟨d, a1, a2, a3, a4⟩ := key
      have := num_bounds d
      rcases cls_three d with h | h | h
      · by_cases hm : numOf d ≤ 9223372036854775807
        · have := (a4 h hm).1; omega
        · have := (a3 h (by omega)).1; omega
      · have := (a1 h).1; omega
      · have := (a2 h).1; omega

end Go.Proofs.Qxb6614300aDoor
