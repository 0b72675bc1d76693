/-
  THE WALKS, 8: the law FnMarshalAccessDescriptionsIsInjective.
-/
import Derived.Test.Qxb6616025aDoorWalks7
namespace Go.Proofs.Qxb6616025aDoor
open Go.RowKit

/-- What a call of the encoder leaves, its length under a name. -/
structure Enc (w : World) (m u : ByteArray) (g cap N : Nat) : Prop where
  len : N = (Der.enc (bytes m) (bytes u)).length
  cells : ∀ j x, (Der.enc (bytes m) (bytes u))[j]? = some x → w.cell? ⟨g, j, none⟩ = some (.int .u8 x)

theorem Enc.below {w w' : World} {m u : ByteArray} {g cap N : Nat} (h : Enc w m u g cap N) (hb : Below w.heap.size w w') : Enc w' m u g cap N :=
  ⟨h.len, fun j x hj => cell_b hb (h.cells j x hj)⟩

theorem Enc.head {w : World} {m u : ByteArray} {g cap N : Nat} (h : Enc w m u g cap N) : w.cell? ⟨g, 0, none⟩ = some (.int .u8 48) :=
  h.cells 0 48 (by simp [Der.enc, Der.tlv])

theorem zz_n (m u : ByteArray) (w : World) (ht : Tags w) (hm : m.size ≤ 65536) (hu : u.size ≤ 65536) : Calls Tryd.prog 6 #[.string m, .string u] w fun e w' => ∃ g cap N : Nat, e = .returned (.slice (some ⟨g, 0, none⟩) N cap) ∧
    N < cap ∧ N ≤ 131092 ∧ m.size + u.size < N ∧ Enc w' m u g cap N ∧ Below w.heap.size w w' := by
  refine (zz_any m u w ht hm hu).mono ?_
  rintro e w' ⟨v, rfl, ⟨g, cap, rfl, hcap, _, hc⟩, hb⟩
  have hx := (Der.enc_max (bytes m) (bytes u) (by rw [bytes_len]; exact hm) (by rw [bytes_len]; exact hu)).2.2.2.2
  have hy := Der.enc_long (bytes m) (bytes u)
  rw [bytes_len, bytes_len] at hy
  exact ⟨g, cap, _, rfl, hcap, hx, hy, ⟨rfl, hc⟩, hb⟩

theorem eq_n (w : World) (m u n v : ByteArray) (ga gb ca cb Na Nb : Nat) (ha : Enc w m u ga ca Na) (hb : Enc w n v gb cb Nb) (hla : Na ≤ 131092) (hlb : Nb ≤ 131092) :
    Calls Tryd.prog 7 #[.slice (some ⟨ga, 0, none⟩) Na ca, .slice (some ⟨gb, 0, none⟩) Nb cb] w fun e w' => ∃ q, e = .returned (.bool q) ∧ Hid (q = decide (Der.enc (bytes m) (bytes u) = Der.enc (bytes n) (bytes v))) ∧ Below w.heap.size w w' := by
  have e1 := ha.len
  have e2 := hb.len
  rw [e1] at hla
  rw [e2] at hlb
  rw [e1, e2]
  refine (eq_any ga gb ca cb _ _ w (by omega) (by omega) ha.cells hb.cells).mono ?_
  rintro e w' ⟨rfl, h⟩
  exact ⟨_, rfl, rfl, h⟩

theorem ends_n (w : World) (m u : ByteArray) (g cap N : Nat) (h : Enc w m u g cap N) (hN : N < cap) (hl : N ≤ 131092) :
    Calls Tryd.prog 8 #[.slice (some ⟨g, 0, none⟩) N cap, .string u] w fun e w' => e = .returned (.bool true) ∧ Below w.heap.size w w' := by
  have e1 := h.len
  rw [e1] at hN hl ⊢
  exact ends_any g cap _ (Der.pre (bytes m) (bytes u)) u w (Der.enc_pre _ _) (by omega) hN h.cells

theorem chain5 {a b c d e f : World} (h1 : Below a.heap.size a b) (h2 : Below b.heap.size b c) (h3 : Below c.heap.size c d) (h4 : Below d.heap.size d e) (h5 : Below e.heap.size e f) : Below a.heap.size a f :=
  have k2 := h1.trans (h2.mono h1.size)
  have k3 := k2.trans (h3.mono k2.size)
  have k4 := k3.trans (h4.mono k3.size)
  k4.trans (h5.mono k4.size)

theorem bytes_iff (a b : ByteArray) : bytes a = bytes b ↔ a.toList = b.toList := by
  rw [ByteArray.toList_eq, ByteArray.toList_eq]
  unfold bytes
  exact List.map_inj_right fun x y e => UInt8.toNat_inj.1 (by exact_mod_cast e)

theorem q_iff (m u n v : ByteArray) : (Der.enc (bytes m) (bytes u) = Der.enc (bytes n) (bytes v)) ↔ (m.toList = n.toList ∧ u.toList = v.toList) := by
  constructor
  · intro h
    obtain ⟨h1, h2⟩ := Der.enc_inj h
    exact ⟨(bytes_iff _ _).1 h1, (bytes_iff _ _).1 h2⟩
  · rintro ⟨h1, h2⟩
    rw [(bytes_iff _ _).2 h1, (bytes_iff _ _).2 h2]

theorem bad1 {m u n v : ByteArray} {q : Bool} (hq : q = decide (Der.enc (bytes m) (bytes u) = Der.enc (bytes n) (bytes v))) (h : m.toList = n.toList) (h' : (!q == (u.toList == v.toList)) = true) : False := by
  by_cases h2 : u.toList = v.toList
  · rw [decide_eq_true ((q_iff m u n v).2 ⟨h, h2⟩)] at hq
    subst hq
    simp [h2] at h'
  · rw [decide_eq_false (fun e => h2 ((q_iff m u n v).1 e).2)] at hq
    subst hq
    simp [h2] at h'

theorem bad2 {m u n v : ByteArray} {q : Bool} (hq : q = decide (Der.enc (bytes m) (bytes u) = Der.enc (bytes n) (bytes v))) (h : ¬ m.toList = n.toList) (h' : q = true) : False := by
  rw [decide_eq_false (fun e => h ((q_iff m u n v).1 e).1)] at hq
  rw [hq] at h'
  cases h'

set_option maxHeartbeats 1000000 in
set_option maxRecDepth 100000 in
theorem inj_walk (m u n v : ByteArray) (w : World) (hm : m.size ≤ maxLen) (hu : u.size ≤ maxLen) (hn : n.size ≤ maxLen) (hv : v.size ≤ maxLen) (ht : Tags w) :
    Calls Tryd.prog 3 #[.string m, .string u, .string n, .string v] w fun e w' => e = .returned (.bool true) ∧ Below w.heap.size w w' := by
  have hbd := bound4 m u n v w hm hu hn hv
  unfold maxLen at hm hu hn hv
  by_cases hs : m.size ≤ 65536 ∧ u.size ≤ 65536 ∧ n.size ≤ 65536 ∧ v.size ≤ 65536
  · obtain ⟨h1, h2, h3, h4⟩ := hs
    go_enter Tryd.func3, Tryd.ntmps3
    go_wp2_with fail
    refine hbd.mono ?_
    rintro e w0 ⟨b, rfl, rfl⟩
    clear hbd
    cases b
    · go_wp2
      go_ret
      exact ⟨rfl, Below.refl _ _⟩
    · go_wp2_with fail
      refine (zz_n m u _ ht h1 h2).mono ?_
      rintro e w1 ⟨ga, ca, Na, rfl, a1, a2, a3, Ea, hb1⟩
      have ht1 := ht.below hb1
      go_wp2_with fail
      refine (zz_n n v _ ht1 h3 h4).mono ?_
      rintro e w2 ⟨gb, cb, Nb, rfl, b1, b2, b3, Eb, hb2⟩
      go_wp2_with fail
      refine (eq_n w2 m u n v ga gb ca cb Na Nb (Ea.below hb2) Eb a2 b2).mono ?_
      rintro e w3 ⟨q, rfl, hq, hb3⟩
      have ka := ((Ea.below hb2).below hb3).head
      have kb := (Eb.below hb3).head
      go_wp2_with fail
      · exact (bad1 hq.out (by assumption) (by assumption)).elim
      · refine (ends_n w3 m u ga ca Na ((Ea.below hb2).below hb3) a1 a2).mono ?_
        rintro e w4 ⟨rfl, hb4⟩
        go_wp2_with fail
        refine (ends_n w4 n v gb cb Nb ((Eb.below hb3).below hb4) b1 b2).mono ?_
        rintro e w5 ⟨rfl, hb5⟩
        go_wp2
        go_ret
        exact ⟨rfl, chain5 hb1 hb2 hb3 hb4 hb5⟩
      · exact (bad2 hq.out (by assumption) (by assumption)).elim
      · refine (ends_n w3 m u ga ca Na ((Ea.below hb2).below hb3) a1 a2).mono ?_
        rintro e w4 ⟨rfl, hb4⟩
        go_wp2_with fail
        refine (ends_n w4 n v gb cb Nb ((Eb.below hb3).below hb4) b1 b2).mono ?_
        rintro e w5 ⟨rfl, hb5⟩
        go_wp2
        go_ret
        exact ⟨rfl, chain5 hb1 hb2 hb3 hb4 hb5⟩
  · go_enter Tryd.func3, Tryd.ntmps3
    go_wp2_with fail
    refine hbd.mono ?_
    rintro e w0 ⟨b, rfl, rfl⟩
    clear hbd
    cases b
    · go_wp2
      go_ret
      exact ⟨rfl, Below.refl _ _⟩
    · rcases (show (¬ m.size ≤ 65536) ∨ (m.size ≤ 65536 ∧ ¬ u.size ≤ 65536) ∨ (m.size ≤ 65536 ∧ u.size ≤ 65536 ∧ ¬ n.size ≤ 65536) ∨ (m.size ≤ 65536 ∧ u.size ≤ 65536 ∧ n.size ≤ 65536 ∧ ¬ v.size ≤ 65536) by omega) with h | ⟨h1, h⟩ | ⟨h1, h2, h⟩ | ⟨h1, h2, h3, h⟩
      all_goals
        clear hs
        go_wp2
        go_ret
        exact ⟨rfl, Below.refl _ _⟩
end Go.Proofs.Qxb6616025aDoor
