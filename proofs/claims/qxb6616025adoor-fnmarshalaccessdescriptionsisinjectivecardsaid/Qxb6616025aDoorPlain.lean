/-
  THE PLAIN PART: DER's definite lengths, an element, what marshalAccessDescriptions writes. No Go here.
-/
namespace Go.Proofs.Qxb6616025aDoor.Der

/-- The length octets of n contents octets (n below 2^24). -/
def lenOct (n : Nat) : List Int :=
  if n < 128 then [(n : Int)]
  else if n < 256 then [129, (n : Int)]
  else if n < 65536 then [130, ((n / 256 : Nat) : Int), ((n % 256 : Nat) : Int)]
  else [131, ((n / 65536 : Nat) : Int), ((n / 256 % 256 : Nat) : Int), ((n % 256 : Nat) : Int)]

def tlv (t : Int) (c : List Int) : List Int := t :: (lenOct c.length ++ c)

def mid (m u : List Int) : List Int := tlv 6 m ++ tlv 134 u

def enc (m u : List Int) : List Int := tlv 48 (tlv 48 (mid m u))

theorem lenOct_1 {n : Nat} (h : n < 128) : lenOct n = [(n : Int)] := by simp [lenOct, h]
theorem lenOct_2 {n : Nat} (h0 : 128 ≤ n) (h : n < 256) : lenOct n = [129, (n : Int)] := by
  unfold lenOct; rw [if_neg (by omega), if_pos h]
theorem lenOct_3 {n : Nat} (h0 : 256 ≤ n) (h : n < 65536) : lenOct n = [130, ((n / 256 : Nat) : Int), ((n % 256 : Nat) : Int)] := by
  unfold lenOct; rw [if_neg (by omega), if_neg (by omega), if_pos h]
theorem lenOct_4 {n : Nat} (h0 : 65536 ≤ n) : lenOct n = [131, ((n / 65536 : Nat) : Int), ((n / 256 % 256 : Nat) : Int), ((n % 256 : Nat) : Int)] := by
  unfold lenOct; rw [if_neg (by omega), if_neg (by omega), if_neg (by omega)]

theorem lenOct_len (n : Nat) : 1 ≤ (lenOct n).length ∧ (lenOct n).length ≤ 4 := by
  unfold lenOct; split
  · simp
  · split
    · simp
    · split <;> simp

theorem lenOct_inj {n m : Nat} {a b : List Int} (h : lenOct n ++ a = lenOct m ++ b) : n = m ∧ a = b := by
  rcases (show n < 128 ∨ (128 ≤ n ∧ n < 256) ∨ (256 ≤ n ∧ n < 65536) ∨ 65536 ≤ n by omega) with h1 | ⟨h1, h1'⟩ | ⟨h1, h1'⟩ | h1 <;>
  rcases (show m < 128 ∨ (128 ≤ m ∧ m < 256) ∨ (256 ≤ m ∧ m < 65536) ∨ 65536 ≤ m by omega) with h2 | ⟨h2, h2'⟩ | ⟨h2, h2'⟩ | h2
  all_goals (first | rw [lenOct_1 h1] at h | rw [lenOct_2 h1 h1'] at h | rw [lenOct_3 h1 h1'] at h | rw [lenOct_4 h1] at h)
  all_goals (first | rw [lenOct_1 h2] at h | rw [lenOct_2 h2 h2'] at h | rw [lenOct_3 h2 h2'] at h | rw [lenOct_4 h2] at h)
  all_goals simp only [List.cons_append, List.nil_append, List.cons.injEq] at h
  all_goals (first | exact ⟨by omega, h.2⟩ | exact ⟨by omega, h.2.2⟩ | exact ⟨by omega, h.2.2.2⟩ | exact ⟨by omega, h.2.2.2.2⟩ | (exfalso; omega))

theorem tlv_len (t : Int) (c : List Int) : (tlv t c).length = 1 + (lenOct c.length).length + c.length := by
  simp [tlv]; omega

theorem tlv_inj {t t' : Int} {c c' r r' : List Int} (h : tlv t c ++ r = tlv t' c' ++ r') : t = t' ∧ c = c' ∧ r = r' := by
  simp only [tlv, List.cons_append, List.cons.injEq, List.append_assoc] at h
  obtain ⟨h1, h2⟩ := h
  obtain ⟨h3, h4⟩ := lenOct_inj h2
  obtain ⟨h5, h6⟩ := List.append_inj h4 h3
  exact ⟨h1, h5, h6⟩

theorem tlv_inj' {t t' : Int} {c c' : List Int} (h : tlv t c = tlv t' c') : t = t' ∧ c = c' := by
  have := tlv_inj (r := []) (r' := []) (by simpa using h)
  exact ⟨this.1, this.2.1⟩

theorem enc_inj {m u m' u' : List Int} (h : enc m u = enc m' u') : m = m' ∧ u = u' := by
  have h1 := (tlv_inj' h).2
  have h2 := (tlv_inj' h1).2
  obtain ⟨_, h3, h4⟩ := tlv_inj h2
  exact ⟨h3, (tlv_inj' h4).2⟩

theorem mid_len (m u : List Int) : (mid m u).length = (tlv 6 m).length + (tlv 134 u).length := by simp [mid]

/-- The bytes ahead of the uri. -/
def pre (m u : List Int) : List Int :=
  48 :: (lenOct (tlv 48 (mid m u)).length ++ (48 :: (lenOct (mid m u).length ++ (tlv 6 m ++ (134 :: lenOct u.length)))))

theorem enc_pre (m u : List Int) : enc m u = pre m u ++ u := by
  simp [enc, pre, tlv, mid]

theorem enc_head (m u : List Int) : (enc m u).getD 0 0 = 48 := by simp [enc, tlv]

theorem enc_long (m u : List Int) : m.length + u.length < (enc m u).length := by
  simp only [enc, tlv_len, mid_len]; omega

theorem enc_max (m u : List Int) (h1 : m.length ≤ 65536) (h2 : u.length ≤ 65536) : (tlv 6 m).length ≤ 65541 ∧ (tlv 134 u).length ≤ 65541 ∧ (mid m u).length ≤ 131082 ∧ (tlv 48 (mid m u)).length ≤ 131087 ∧ (enc m u).length ≤ 131092 := by
  have a := lenOct_len m.length
  have b := lenOct_len u.length
  have c := lenOct_len (mid m u).length
  have d := lenOct_len (tlv 48 (mid m u)).length
  have e1 := tlv_len 6 m
  have e2 := tlv_len 134 u
  have e3 := mid_len m u
  have e4 := tlv_len 48 (mid m u)
  have e5 := tlv_len 48 (tlv 48 (mid m u))
  have e6 : (enc m u).length = (tlv 48 (tlv 48 (mid m u))).length := rfl
  omega

end Go.Proofs.Qxb6616025aDoor.Der
