/-
  THE WALKS, 4: marshalAccessDescriptions, ZZmarshalAccessDescriptions.
-/
import Derived.Test.Qxb6616025aDoorWalks3
import Derived.Deep.RegionHeld3
namespace Go.Proofs.Qxb6616025aDoor
open Go.RowKit

set_option maxHeartbeats 1000000 in
set_option maxRecDepth 100000 in
theorem descr_any (m u : ByteArray) (w : World) (ht : Tags w) (hm : m.size ≤ 65536) (hu : u.size ≤ 65536) : Calls Tryd.prog 12 #[.string m, .string u] w fun e w' => ∃ v, e = .returned v ∧ OwnsB w' v (Der.enc (bytes m) (bytes u)) ∧ Below w.heap.size w w' := by
  obtain ⟨x1, x2, x3, x4, x5⟩ := Der.enc_max (bytes m) (bytes u) (by rw [bytes_len]; exact hm) (by rw [bytes_len]; exact hu)
  have hm' : m.size ≤ 70000 := by omega
  have hu' : u.size ≤ 70000 := by omega
  have X : Hid ((Der.tlv 6 (bytes m)).length + (Der.tlv 134 (bytes u)).length ≤ 1000000 ∧ (Der.tlv 48 (Der.mid (bytes m) (bytes u))).length ≤ 1000000) := ⟨by omega, by omega⟩
  clear x1 x2 x3 x4 x5
  have t0 := ht
  obtain ⟨a0, a1, a2, b0, b1, b2, c0, c1, c2⟩ := ht
  go_enter Tryd.func12, Tryd.ntmps12
  go_wp2
  go_region_held3 (fun w' => w'.cell? ⟨0, 0, none⟩ = some (.int .u8 0) ∧ w'.cell? ⟨0, 1, none⟩ = some (.bool true) ∧ w'.cell? ⟨0, 2, none⟩ = some (.int .u32 16)) (go_keep) (first
    | (go_at_call 14; refine (oid_any m w.drew t0.drew hm').mono ?_; rintro e w1 ⟨v1, rfl, ho1, hb1⟩; have t1 : Tags w1 := t0.drew.below hb1; have q1 := t1.a0; have q2 := t1.a1; have q3 := t1.a2; obtain ⟨g1, p1, rfl⟩ := ho1.form)
    | (go_at_call 15; refine (uri_any u w1 t1 hu').mono ?_; rintro e w2 ⟨v2, rfl, ho2, hb2⟩; have t2 : Tags w2 := t1.below hb2; have r1 := t2.a0; have r2 := t2.a1; have r3 := t2.a2; have r4 : 0 < w2.heap.size := World.block_lt_of_cell? _ _ r1; obtain ⟨g2, p2, rfl⟩ := ho2.form)
    | (go_at_call_of 13 (Value.slice (some ⟨w2.heap.size, 0, none⟩) 2 2); refine (marshal_two w2 _ _ _ _ (ho1.below hb2).holds ho2.holds X.out.1).mono ?_; rintro e w3 ⟨v3, rfl, ho3, hb3⟩; have t3 : Tags w3 := t2.below hb3; have s1 := t3.a0; have s2 := t3.a1; have s3 := t3.a2; have s4 : 0 < w3.heap.size := World.block_lt_of_cell? _ _ s1; obtain ⟨g3, p3, rfl⟩ := ho3.form)
    | (go_at_call_of 13 (Value.slice (some ⟨w3.heap.size, 0, none⟩) 1 1); refine (marshal_one w3 _ _ ho3.holds X.out.2).mono ?_; rintro e w4 ⟨v4, rfl, ho4, hb4⟩; have t4 : Tags w4 := t3.below hb4; have z1 := t4.a0; have z2 := t4.a1; have z3 := t4.a2))
  all_goals
    go_wp2
    go_ret
    exact ⟨v4, rfl, ho4, ((Below.refl _ _).drew.trans hb1).trans ((hb2.mono hb1.size).trans ((hb3.mono (Nat.le_trans hb1.size hb2.size)).trans (hb4.mono (Nat.le_trans hb1.size (Nat.le_trans hb2.size hb3.size)))))⟩

set_option maxHeartbeats 400000 in
theorem zz_any (m u : ByteArray) (w : World) (ht : Tags w) (hm : m.size ≤ 65536) (hu : u.size ≤ 65536) : Calls Tryd.prog 6 #[.string m, .string u] w fun e w' => ∃ v, e = .returned v ∧ OwnsB w' v (Der.enc (bytes m) (bytes u)) ∧ Below w.heap.size w w' := by
  go_enter Tryd.func6, Tryd.ntmps6
  go_wp2_with fail
  refine (descr_any m u w ht hm hu).mono ?_
  rintro e w' ⟨v, rfl, ho, hb⟩
  go_wp2
  go_ret
  exact ⟨v, rfl, ho, hb⟩
end Go.Proofs.Qxb6616025aDoor
