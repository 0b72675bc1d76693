/-
  THE WALKS, 7: the two laws' own texts.
-/
import Derived.Test.Qxb6616025aDoorWalks4
import Derived.Test.Qxb6616025aDoorWalks6
namespace Go.Proofs.Qxb6616025aDoor
open Go.RowKit

set_option maxHeartbeats 400000 in
set_option maxRecDepth 100000 in
theorem bound2 (m u : ByteArray) (w : World) (hm : m.size ≤ maxLen) (hu : u.size ≤ maxLen) : Calls Tryd.prog 9 #[.string m, .string u] w fun e w' => ∃ b, e = .returned (.bool b) ∧ w' = w := by
  unfold maxLen at hm hu
  go_enter Tryd.func9, Tryd.ntmps9
  go_wp2
  all_goals
    go_ret
    exact ⟨_, rfl, rfl⟩

set_option maxHeartbeats 400000 in
set_option maxRecDepth 100000 in
theorem bound4 (m u n v : ByteArray) (w : World) (hm : m.size ≤ maxLen) (hu : u.size ≤ maxLen) (hn : n.size ≤ maxLen) (hv : v.size ≤ maxLen) : Calls Tryd.prog 5 #[.string m, .string u, .string n, .string v] w fun e w' => ∃ b, e = .returned (.bool b) ∧ w' = w := by
  unfold maxLen at hm hu hn hv
  go_enter Tryd.func5, Tryd.ntmps5
  go_wp2
  all_goals
    go_ret
    exact ⟨_, rfl, rfl⟩

/-- Where the four elements lie, and that derTLV finds them. -/
structure Lay (w : World) (m u : ByteArray) (g cap n s1 s2 s3 e3 s4 : Nat) : Prop where
  c1 : ∀ w', Below w.heap.size w w' → Calls Tryd.prog 10 #[.slice (some ⟨g, 0, none⟩) n cap, .int .i64 0, .int .i64 n] w' fun e w'' => e = .returned (.tuple #[.int .u8 48, .int .i64 s1, .int .i64 n, .bool true]) ∧ w'' = w'
  c2 : ∀ w', Below w.heap.size w w' → Calls Tryd.prog 10 #[.slice (some ⟨g, 0, none⟩) n cap, .int .i64 s1, .int .i64 n] w' fun e w'' => e = .returned (.tuple #[.int .u8 48, .int .i64 s2, .int .i64 n, .bool true]) ∧ w'' = w'
  c3 : ∀ w', Below w.heap.size w w' → Calls Tryd.prog 10 #[.slice (some ⟨g, 0, none⟩) n cap, .int .i64 s2, .int .i64 n] w' fun e w'' => e = .returned (.tuple #[.int .u8 6, .int .i64 s3, .int .i64 e3, .bool true]) ∧ w'' = w'
  c4 : ∀ w', Below w.heap.size w w' → Calls Tryd.prog 10 #[.slice (some ⟨g, 0, none⟩) n cap, .int .i64 e3, .int .i64 n] w' fun e w'' => e = .returned (.tuple #[.int .u8 134, .int .i64 s4, .int .i64 n, .bool true]) ∧ w'' = w'
  t3 : ∀ j (h : j < m.size), w.cell? ⟨g, s3 + j, none⟩ = some (.int .u8 (m[j].toNat : Int))
  t4 : ∀ j (h : j < u.size), w.cell? ⟨g, s4 + j, none⟩ = some (.int .u8 (u[j].toNat : Int))

theorem drop_tlv (t : Int) (c r : List Int) : (Der.tlv t c ++ r).drop (1 + (Der.lenOct c.length).length) = c ++ r := by
  have e : Der.tlv t c ++ r = (t :: Der.lenOct c.length) ++ (c ++ r) := by simp [Der.tlv]
  rw [e, List.drop_left' (by simp; omega)]

theorem get_drop {L : List Int} {p : Nat} {s : ByteArray} {r : List Int} (h : L.drop p = bytes s ++ r) (j : Nat) (hj : j < s.size) : L[p + j]? = some (s[j].toNat : Int) := by
  have := bytes_at s j hj
  rw [← List.getElem?_drop, h, List.getElem?_append_left (by rw [bytes_len]; exact hj), this]

theorem lay_of (w : World) (m u : ByteArray) (g cap : Nat) (hm : m.size ≤ 65536) (hu : u.size ≤ 65536)
    (hc : ∀ j x, (Der.enc (bytes m) (bytes u))[j]? = some x → w.cell? ⟨g, j, none⟩ = some (.int .u8 x)) :
    ∃ s1 s2 s3 e3 s4 : Nat, Lay w m u g cap (Der.enc (bytes m) (bytes u)).length s1 s2 s3 e3 s4 ∧ s1 ≤ s2 ∧ s2 ≤ s3 ∧ s3 + m.size ≤ e3 ∧ e3 ≤ s3 + m.size ∧ e3 ≤ s4 ∧ s4 + u.size ≤ (Der.enc (bytes m) (bytes u)).length ∧ (Der.enc (bytes m) (bytes u)).length ≤ s4 + u.size := by
  obtain ⟨x1, x2, x3, x4, x5⟩ := Der.enc_max (bytes m) (bytes u) (by rw [bytes_len]; exact hm) (by rw [bytes_len]; exact hu)
  have lm := bytes_len m
  have lu := bytes_len u
  generalize hM : bytes m = M at *
  generalize hU : bytes u = U at *
  have d0 : (Der.enc M U).drop 0 = Der.tlv 48 (Der.tlv 48 (Der.mid M U)) ++ [] := by simp [Der.enc]
  have l1 := Der.tlv_len 48 (Der.tlv 48 (Der.mid M U))
  have l2 := Der.tlv_len 48 (Der.mid M U)
  have l3 := Der.tlv_len 6 M
  have l4 := Der.tlv_len 134 U
  have l5 := Der.mid_len M U
  have l6 : (Der.enc M U).length = (Der.tlv 48 (Der.tlv 48 (Der.mid M U))).length := rfl
  obtain ⟨s1, hs1⟩ : ∃ s1, s1 = 0 + 1 + (Der.lenOct (Der.tlv 48 (Der.mid M U)).length).length := ⟨_, rfl⟩
  obtain ⟨s2, hs2⟩ : ∃ s2, s2 = s1 + 1 + (Der.lenOct (Der.mid M U).length).length := ⟨_, rfl⟩
  obtain ⟨s3, hs3⟩ : ∃ s3, s3 = s2 + 1 + (Der.lenOct M.length).length := ⟨_, rfl⟩
  obtain ⟨e3, he3⟩ : ∃ e3, e3 = s2 + (Der.tlv 6 M).length := ⟨_, rfl⟩
  obtain ⟨s4, hs4⟩ : ∃ s4, s4 = e3 + 1 + (Der.lenOct U.length).length := ⟨_, rfl⟩
  have d1 : (Der.enc M U).drop s1 = Der.tlv 48 (Der.mid M U) ++ [] := by
    have := drop_tlv 48 (Der.tlv 48 (Der.mid M U)) []
    rw [show s1 = 1 + (Der.lenOct (Der.tlv 48 (Der.mid M U)).length).length by omega]
    rw [← this, List.append_nil]; rfl
  have d2 : (Der.enc M U).drop s2 = Der.tlv 6 M ++ Der.tlv 134 U := by
    rw [hs2, show s1 + 1 + (Der.lenOct (Der.mid M U).length).length = s1 + (1 + (Der.lenOct (Der.mid M U).length).length) by omega, ← List.drop_drop, d1, drop_tlv, List.append_nil]; rfl
  have d3 : (Der.enc M U).drop s3 = M ++ Der.tlv 134 U := by
    rw [hs3, show s2 + 1 + (Der.lenOct M.length).length = s2 + (1 + (Der.lenOct M.length).length) by omega, ← List.drop_drop, d2, drop_tlv]
  have d4 : (Der.enc M U).drop e3 = Der.tlv 134 U ++ [] := by
    rw [he3, ← List.drop_drop, d2, List.drop_left, List.append_nil]
  have d5 : (Der.enc M U).drop s4 = U ++ [] := by
    rw [hs4, show e3 + 1 + (Der.lenOct U.length).length = e3 + (1 + (Der.lenOct U.length).length) by omega, ← List.drop_drop, d4, drop_tlv]
  refine ⟨s1, s2, s3, e3, s4, ⟨fun w' hb => ?_, fun w' hb => ?_, fun w' hb => ?_, fun w' hb => ?_, fun j h => ?_, fun j h => ?_⟩, by omega, by omega, by omega, by omega, by omega, by omega, by omega⟩
  · refine (der_any g cap 0 (Der.enc M U).length (Der.enc M U) 48 _ _ w' (fun j x hj => cell_b hb (hc j x hj)) d0 (by omega) (by omega) (by omega)).mono ?_
    rintro _ _ ⟨rfl, rfl⟩
    exact ⟨ret4 (by omega) (by omega), rfl⟩
  · refine (der_any g cap s1 (Der.enc M U).length (Der.enc M U) 48 _ _ w' (fun j x hj => cell_b hb (hc j x hj)) d1 (by omega) (by omega) (by omega)).mono ?_
    rintro _ _ ⟨rfl, rfl⟩
    exact ⟨ret4 (by omega) (by omega), rfl⟩
  · refine (der_any g cap s2 (Der.enc M U).length (Der.enc M U) 6 _ _ w' (fun j x hj => cell_b hb (hc j x hj)) d2 (by omega) (by omega) (by omega)).mono ?_
    rintro _ _ ⟨rfl, rfl⟩
    exact ⟨ret4 (by omega) (by omega), rfl⟩
  · refine (der_any g cap e3 (Der.enc M U).length (Der.enc M U) 134 _ _ w' (fun j x hj => cell_b hb (hc j x hj)) d4 (by omega) (by omega) (by omega)).mono ?_
    rintro _ _ ⟨rfl, rfl⟩
    exact ⟨ret4 (by omega) (by omega), rfl⟩
  · exact hc _ _ (get_drop (s := m) (by rw [hM]; exact d3) j h)
  · exact hc _ _ (get_drop (s := u) (by rw [hU]; exact d5) j h)

theorem zz_lay (m u : ByteArray) (w : World) (ht : Tags w) (hm : m.size ≤ 65536) (hu : u.size ≤ 65536) : Calls Tryd.prog 6 #[.string m, .string u] w fun e w' => ∃ g cap n s1 s2 s3 e3 s4 : Nat, e = .returned (.slice (some ⟨g, 0, none⟩) n cap) ∧
    n < cap ∧ n ≤ 131092 ∧ Lay w' m u g cap n s1 s2 s3 e3 s4 ∧ s1 ≤ s2 ∧ s2 ≤ s3 ∧ s3 + m.size ≤ e3 ∧ e3 ≤ s3 + m.size ∧ e3 ≤ s4 ∧ s4 + u.size ≤ n ∧ n ≤ s4 + u.size ∧ Below w.heap.size w w' := by
  refine (zz_any m u w ht hm hu).mono ?_
  rintro e w' ⟨v, rfl, ⟨g, cap, rfl, hcap, _, hc⟩, hb⟩
  obtain ⟨s1, s2, s3, e3, s4, hL, a1, a2, a3, a4, a5, a6, a7⟩ := lay_of w' m u g cap hm hu hc
  have hx := (Der.enc_max (bytes m) (bytes u) (by rw [bytes_len]; exact hm) (by rw [bytes_len]; exact hu)).2.2.2.2
  exact ⟨g, cap, _, s1, s2, s3, e3, s4, rfl, hcap, hx, hL, a1, a2, a3, a4, a5, a6, a7, hb⟩

set_option maxHeartbeats 1000000 in
set_option maxRecDepth 100000 in
theorem decodes_walk (m u : ByteArray) (w : World) (hm : m.size ≤ maxLen) (hu : u.size ≤ maxLen) (ht : Tags w) :
    Calls Tryd.prog 4 #[.string m, .string u] w fun e w' => e = .returned (.bool true) ∧ Below w.heap.size w w' := by
  have hbd := bound2 m u w hm hu
  unfold maxLen at hm hu
  by_cases hs : m.size ≤ 65536 ∧ u.size ≤ 65536
  · obtain ⟨h1, h2⟩ := hs
    go_enter Tryd.func4, Tryd.ntmps4
    go_wp2_with fail
    refine hbd.mono ?_
    rintro e w0 ⟨b, rfl, rfl⟩
    cases b
    · go_wp2
      go_ret
      exact ⟨rfl, Below.refl _ _⟩
    · go_wp2_with fail
      refine (zz_lay m u _ ht h1 h2).mono ?_
      rintro e w1 ⟨g, cap, n, s1, s2, s3, e3, s4, rfl, hcap, hn, hL, a1, a2, a3, a4, a5, a6, a7, hb⟩
      go_wp2_with fail
      refine (hL.c1 _ (Below.refl _ _)).mono ?_
      rintro e w2 ⟨rfl, rfl⟩
      go_wp2_with fail
      refine (hL.c2 _ (Below.refl _ _)).mono ?_
      rintro e w3 ⟨rfl, rfl⟩
      go_wp2_with fail
      refine (hL.c3 _ (Below.refl _ _)).mono ?_
      rintro e w4 ⟨rfl, rfl⟩
      go_wp2_with fail
      refine (same_true _ g s3 (e3 - s3) (cap - s3) m w4 (by omega) (by omega) (fun _ => rfl) hL.t3).mono ?_
      rintro e w5 ⟨rfl, hb5⟩
      go_wp2_with fail
      refine (hL.c4 w5 hb5).mono ?_
      rintro e w6 ⟨rfl, rfl⟩
      go_wp2_with fail
      refine (same_true _ g s4 (n - s4) (cap - s4) u w6 (by omega) (by omega) (fun _ => rfl) (fun j h => cell_b hb5 (hL.t4 j h))).mono ?_
      rintro e w7 ⟨rfl, hb7⟩
      go_wp2
      go_ret
      exact ⟨rfl, hb.trans ((hb5.mono hb.size).trans (hb7.mono (Nat.le_trans hb.size hb5.size)))⟩
  · go_enter Tryd.func4, Tryd.ntmps4
    go_wp2_with fail
    refine hbd.mono ?_
    rintro e w0 ⟨b, rfl, rfl⟩
    cases b
    · go_wp2
      go_ret
      exact ⟨rfl, Below.refl _ _⟩
    · by_cases h1 : m.size ≤ 65536
      · have h2 : ¬ u.size ≤ 65536 := fun h => hs ⟨h1, h⟩
        go_wp2
        go_ret
        exact ⟨rfl, Below.refl _ _⟩
      · go_wp2
        go_ret
        exact ⟨rfl, Below.refl _ _⟩
end Go.Proofs.Qxb6616025aDoor
