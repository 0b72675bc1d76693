/-
  THE WALKS, 2: Marshal.
-/
import Derived.Test.Qxb6616025aDoorWalks1
namespace Go.Proofs.Qxb6616025aDoor
open Go.RowKit

/-- The slice value v holds the bytes l in w. -/
def HoldsB (w : World) (v : Value) (l : List Int) : Prop :=
  ∃ ao c, v = .slice ao l.length c ∧ (ao = none → l.length = 0 ∧ c = 0) ∧ ∀ ad, ao = some ad → ∀ j u, (l.map (Value.int .u8))[j]? = some u → w.cell? (ad.add j) = some u

theorem HoldsB.below {w w' : World} {v : Value} {l : List Int} (h : HoldsB w v l) (hb : Below w.heap.size w w') : HoldsB w' v l := by
  obtain ⟨ao, c, hv, hn, hc⟩ := h
  exact ⟨ao, c, hv, hn, fun ad had j u hj => (hb.cell (World.block_lt_of_cell? _ _ (hc ad had j u hj))).trans (hc ad had j u hj)⟩

theorem HoldsB.of_owns {w : World} {base n : Nat} {v : Value} {l : List Int} (h : w.ownsRow base 5 1 v n (l.map (Value.int .u8))) : HoldsB w v l := by
  have h1 : l.length = n := by have := h.1; simpa using this
  rcases h.2 with ⟨rfl, rfl⟩ | ⟨g, cap, cur, rfl, _⟩
  · exact ⟨none, 0, by rw [h1], fun _ => ⟨h1, rfl⟩, fun ad had => by cases had⟩
  · refine ⟨some ⟨g, 0, none⟩, cap, by rw [h1], (fun e => by cases e), fun ad had => ?_⟩
    cases had
    exact h.cells rfl

def cat (ps : List (Value × List Int)) : List Int := (ps.map (·.2)).flatten

theorem cat_succ {ps : List (Value × List Int)} {j : Nat} {p : Value × List Int} (h : ps[j]? = some p) : cat (ps.take (j + 1)) = cat (ps.take j) ++ p.2 := by
  unfold cat
  rw [List.take_add_one, h]
  simp

theorem cat_le (ps : List (Value × List Int)) (j : Nat) : (cat (ps.take j)).length ≤ (cat ps).length := by
  have : cat ps = cat (ps.take j) ++ cat (ps.drop j) := by
    unfold cat
    rw [← List.flatten_append, ← List.map_append, List.take_append_drop]
  rw [this, List.length_append]
  omega

theorem cat_all (ps : List (Value × List Int)) : cat (ps.take ps.length) = cat ps := by rw [List.take_length]

theorem IsTag.form {tv : Value} {t : Int} (h : IsTag tv t) : ∃ (a : Int) (b : Bool) (c : Int), tv = .agg #[.int .u8 a, .bool b, .int .u32 c] := by
  rcases h with ⟨rfl, _⟩ | ⟨rfl, _⟩ | ⟨rfl, _⟩
  · exact ⟨_, _, _, rfl⟩
  · exact ⟨_, _, _, rfl⟩
  · exact ⟨_, _, _, rfl⟩

theorem ident_first (base g cap : Nat) (tv : Value) (t : Int) (ht : IsTag tv t) (w : World) (hroom : 1 ≤ cap)
    (hown : w.ownsRow base 5 1 (.slice (some ⟨g, 0, none⟩) 0 cap) 0 []) :
    Calls Tryd.prog 16 #[.slice (some ⟨g, 0, none⟩) 0 cap, tv] w fun e w' => e = .returned (.slice (some ⟨g, 0, none⟩) 1 cap) ∧
      w'.ownsRow base 5 1 (.slice (some ⟨g, 0, none⟩) 1 cap) 1 ([t].map (Value.int .u8)) ∧ w.grownBy w' (some g) :=
  ident_any base g 0 cap [] tv t ht w hroom hown

theorem part_in {w wr : World} {ao : Option Addr} {l : List Int} (hb : Below w.heap.size w wr) (hcs : ∀ ad, ao = some ad → ∀ j u, (l.map (Value.int .u8))[j]? = some u → w.cell? (ad.add j) = some u) :
    ∀ ad, ao = some ad → ∀ j u, (l.map (Value.int .u8))[j]? = some u → wr.cell? (ad.add j) = some u :=
  fun ad had j u hj => (hb.cell (World.block_lt_of_cell? _ _ (hcs ad had j u hj))).trans (hcs ad had j u hj)

set_option maxHeartbeats 1000000 in
set_option maxRecDepth 100000 in
theorem marshal_any (tv : Value) (t : Int) (ht : IsTag tv t) (pb np : Nat) (ps : List (Value × List Int)) (w : World) (hn : ps.length = np) (hnp : np ≤ 2)
    (hcell : ∀ j p, ps[j]? = some p → w.cell? ⟨pb, j, none⟩ = some p.1 ∧ HoldsB w p.1 p.2) (hmax : (cat ps).length ≤ 1000000) :
    Calls Tryd.prog 13 #[tv, .slice (some ⟨pb, 0, none⟩) np np] w fun e w' => ∃ v, e = .returned v ∧
      w'.ownsRow w.heap.size 5 1 v (Der.tlv t (cat ps)).length ((Der.tlv t (cat ps)).map (Value.int .u8)) ∧ Below w.heap.size w w' ∧ ∃ g c, v = .slice (some ⟨g, 0, none⟩) (Der.tlv t (cat ps)).length c ∧ (Der.tlv t (cat ps)).length < c := by
  obtain ⟨i0, hi, hz0, hz1, hz2⟩ := info_parts Tryd.info5
  obtain ⟨a, b, c, rfl⟩ := ht.form
  have hnpI : (np : Int) ≤ 2 := by omega
  go_enter Tryd.func13, Tryd.ntmps13
  go_wp2
  go_loop [5, 13] (fun n i => ∃ j : Nat, j ≤ np ∧ i = .int .i64 j ∧ n = .int .i64 ((cat (ps.take j)).length : Nat)) (fun _ i => np - (intOf i).toNat)
  case atStart => exact ⟨0, Nat.zero_le _, rfl, rfl⟩
  case round =>
    obtain ⟨j, hj, rfl, rfl⟩ := hrel
    by_cases hlt : j < np
    · obtain ⟨p, hp⟩ : ∃ p, ps[j]? = some p := ⟨ps[j], List.getElem?_eq_getElem (by omega)⟩
      obtain ⟨hc0, ao, c0, hv, hnone, hcs⟩ := hcell j p hp
      rw [hv] at hc0
      have hpb : pb < w.heap.size := World.block_lt_of_cell? _ _ hc0
      have hc1 : (w.alloc (.cells #[.int .u8 a, .bool b, .int .u32 c] 37)).cell? ⟨pb, j, none⟩ = some (.slice ao p.2.length c0) := by
        exact (World.cell?_alloc_lt _ _ _ (by exact hpb)).trans hc0
      have hle := cat_le ps (j + 1)
      have hs : (cat (ps.take (j + 1))).length = (cat (ps.take j)).length + p.2.length := by rw [cat_succ hp]; simp
      have HS := (show Hid _ from hs)
      rw [hs] at hle
      clear hs hcs hnone hv hc0 hp
      go_wp2
      refine ⟨⟨j + 1, by omega, by go_num, ?_⟩, by simp [intOf]; omega⟩
      rw [HS.out]
      go_num
    · obtain rfl : np = j := by omega
      have e : cat (ps.take np) = cat ps := by rw [← hn]; exact cat_all ps
      rw [e]
      clear e
      have hb0 : ((cat ps).length : Int) ≤ 1000000 := by omega
      go_wp2_with (at_make; refine wpList_make_own _ rfl _ _ 23 rfl w.heap.size 5 i0 (.int .u8 0) 1 Tryd.underlying23 hi hz0 hz1 _ _ _ ((cat ps).length + 16) rfl rfl (by omega) ?b2 ?b3 (by simp) ?_)
      case b2 => first | omega | (rw [hz2]; omega)
      case b3 => unfold maxLen; omega
      intro w0 hown0 hgrow0
      have hB0 : Below w.heap.size w w0 := ((Below.refl _ _).alloc (Nat.le_refl _) _).grown hgrow0 (by simp) (fun k h => by cases h)
      have k0 : w0.cell? ⟨w.heap.size, 0, none⟩ = some (.int .u8 a) := hgrow0.cell (by simp) (by simp)
      have k1 : w0.cell? ⟨w.heap.size, 1, none⟩ = some (.bool b) := hgrow0.cell (by simp) (by simp)
      have k2 : w0.cell? ⟨w.heap.size, 2, none⟩ = some (.int .u32 c) := hgrow0.cell (by simp) (by simp)
      have hL := Der.lenOct_len (cat ps).length
      go_wp2_with fail
      refine (ident_first w.heap.size (w.heap.size + 1) ((cat ps).length + 16) _ t ht w0 (by omega) hown0).mono ?_
      rintro e w1 ⟨rfl, hown1, hg1⟩
      have hB1 : Below w.heap.size w w1 := hB0.grown hg1 hB0.size (fun k hk => by cases hk; omega)
      clear k0 k1 k2 hown0 hgrow0
      go_wp2_with fail
      refine (length_any w.heap.size (w.heap.size + 1) 1 ((cat ps).length + 16) (cat ps).length [t] w1 (by omega) (by omega) hown1).mono ?_
      rintro e w2 ⟨rfl, hown2, hg2⟩
      have hB2 : Below w.heap.size w w2 := hB1.grown hg2 hB1.size (fun k hk => by cases hk; omega)
      clear hg1 hg2 hB0 hB1 hown1
      obtain ⟨L, hLe⟩ : ∃ L, L = (Der.lenOct (cat ps).length).length := ⟨_, rfl⟩
      rw [← hLe] at hown2 hL ⊢
      have HL := (show Hid _ from hLe)
      clear hLe
      go_wp2
      go_loopw [8, 33] (fun out i wr => ∃ j : Nat, j ≤ np ∧ i = .int .i64 j ∧ out = .slice (some ⟨w.heap.size + 1, 0, none⟩) (1 + L + (cat (ps.take j)).length) ((cat ps).length + 16) ∧
          wr.ownsRow w.heap.size 5 1 (.slice (some ⟨w.heap.size + 1, 0, none⟩) (1 + L + (cat (ps.take j)).length) ((cat ps).length + 16)) (1 + L + (cat (ps.take j)).length) (([t] ++ Der.lenOct (cat ps).length ++ cat (ps.take j)).map (Value.int .u8)) ∧ Below w.heap.size w wr)
        (fun _ i _ => np - (intOf i).toNat)
      case atStart => exact ⟨0, Nat.zero_le _, rfl, rfl, by simpa [cat] using hown2, hB2⟩
      case round =>
        obtain ⟨j, hj, rfl, rfl, hown, hB⟩ := hrel
        by_cases hlt : j < np
        · obtain ⟨p, hp⟩ : ∃ p, ps[j]? = some p := ⟨ps[j], List.getElem?_eq_getElem (by omega)⟩
          obtain ⟨hc0, ao, c0, hv, hnone, hcs⟩ := hcell j p hp
          rw [hv] at hc0
          have hpb : pb < w.heap.size := World.block_lt_of_cell? _ _ hc0
          have hc1 : wr.cell? ⟨pb, j, none⟩ = some (.slice ao p.2.length c0) := (hB.cell (by exact hpb)).trans hc0
          have hle := cat_le ps (j + 1)
          have HC : Hid (cat (ps.take (j + 1)) = cat (ps.take j) ++ p.2) := cat_succ hp
          rw [cat_succ hp, List.length_append] at hle
          have hcs' := part_in hB hcs
          clear hv hc0 hp hcs hcell
          go_wp2_with (at_builtin; refine wpList_append_fits_any _ rfl (.tmp 37) (.tmp 38) 23 rfl w.heap.size 5 i0 1 Tryd.underlying23 hi hz1 (w.heap.size + 1) _ _ _ rfl hown ao p.2.length c0 (p.2.map (Value.int .u8)) rfl (by simp) hnone hcs' (ints_oneCell _ _) (by omega) ?_; intro w3 hown3 hg3)
          go_roundw
          case rel =>
            refine ⟨j + 1, by omega, by go_num, ?_, ?_, hB.grown hg3 hB.size (fun k hk => by cases hk; omega)⟩
            · rw [HC.out, List.length_append, ← Nat.add_assoc]
            · rw [HC.out, List.length_append, ← Nat.add_assoc]
              simpa using hown3
          case measure => simp [intOf]; omega
        · obtain rfl : np = j := by omega
          have e : cat (ps.take np) = cat ps := by rw [← hn]; exact cat_all ps
          rw [e] at hown
          have E := (show Hid _ from e)
          clear e
          go_wp2
          go_ret
          have e3 : 1 + L + (cat ps).length = (Der.tlv t (cat ps)).length := by rw [Der.tlv_len, HL.out]
          refine ⟨_, rfl, ?_, hB, w.heap.size + 1, (cat ps).length + 16, ?_, by omega⟩
          rotate_left
          · show Value.slice _ (1 + L + (cat (ps.take np)).length) _ = _
            rw [E.out, e3]
          have e2 : 1 + L + (cat ps).length = (Der.tlv t (cat ps)).length := by rw [Der.tlv_len, HL.out]
          rw [E.out]
          rw [e2] at hown
          show wr.ownsRow _ _ _ (.slice _ (1 + L + (cat ps).length) _) _ _
          rw [e2]
          exact hown
end Go.Proofs.Qxb6616025aDoor
