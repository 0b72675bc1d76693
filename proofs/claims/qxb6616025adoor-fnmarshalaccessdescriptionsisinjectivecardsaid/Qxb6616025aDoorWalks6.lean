/-
  THE WALKS, 6: derTLV at an element; sameText; equalBytes; endsWithText.
-/
import Derived.Test.Qxb6616025aDoorWalks5
namespace Go.Proofs.Qxb6616025aDoor
open Go.RowKit

/-- derTLV at the head of an element. -/
theorem der_any (g cap p en : Nat) (L : List Int) (t : Int) (c rest : List Int) (w : World) (hL : ∀ j x, L[j]? = some x → w.cell? ⟨g, j, none⟩ = some (.int .u8 x))
    (hd : L.drop p = Der.tlv t c ++ rest) (hen : p + (Der.tlv t c).length ≤ en) (hn : en ≤ L.length) (hmax : L.length ≤ 1000000) :
    Calls Tryd.prog 10 #[.slice (some ⟨g, 0, none⟩) L.length cap, .int .i64 p, .int .i64 en] w fun e w' =>
      e = .returned (.tuple #[.int .u8 t, .int .i64 ((p + 1 + (Der.lenOct c.length).length : Nat) : Int), .int .i64 ((p + (Der.tlv t c).length : Nat) : Int), .bool true]) ∧ w' = w := by
  have hcell : ∀ j x, (Der.tlv t c ++ rest)[j]? = some x → w.cell? ⟨g, p + j, none⟩ = some (.int .u8 x) := by
    intro j x hj
    refine hL (p + j) x ?_
    rw [← hd, List.getElem?_drop] at hj
    exact hj
  have hl := Der.tlv_len t c
  rcases (show c.length < 128 ∨ (128 ≤ c.length ∧ c.length < 256) ∨ (256 ≤ c.length ∧ c.length < 65536) ∨ 65536 ≤ c.length by omega) with h | ⟨h, h'⟩ | ⟨h, h'⟩ | h
  · have e : Der.lenOct c.length = [(c.length : Int)] := Der.lenOct_1 h
    have e' : (Der.lenOct c.length).length = 1 := by rw [e]; rfl
    have k0 := hcell 0 t (by simp [Der.tlv])
    have k1 := hcell 1 c.length (by simp [Der.tlv, e])
    refine (der_1 g L.length cap p en c.length t w k0 k1 h (by omega) hn hmax).mono ?_
    rintro _ _ ⟨rfl, rfl⟩
    exact ⟨ret4 (by omega) (by omega), rfl⟩
  · have e : Der.lenOct c.length = [129, (c.length : Int)] := Der.lenOct_2 h h'
    have e' : (Der.lenOct c.length).length = 2 := by rw [e]; rfl
    have k0 := hcell 0 t (by simp [Der.tlv])
    have k1 := hcell 1 129 (by simp [Der.tlv, e])
    have k2 := hcell 2 c.length (by simp [Der.tlv, e])
    refine (der_2 g L.length cap p en t c.length w k0 k1 k2 (by omega) (by omega) (by omega) (by omega) (by omega) hn hmax).mono ?_
    rintro _ _ ⟨rfl, rfl⟩
    exact ⟨ret4 (by omega) (by omega), rfl⟩
  · have e : Der.lenOct c.length = [130, ((c.length / 256 : Nat) : Int), ((c.length % 256 : Nat) : Int)] := Der.lenOct_3 h h'
    have e' : (Der.lenOct c.length).length = 3 := by rw [e]; rfl
    have k0 := hcell 0 t (by simp [Der.tlv])
    have k1 := hcell 1 130 (by simp [Der.tlv, e])
    have k2 := hcell 2 ((c.length / 256 : Nat) : Int) (by simp [Der.tlv, e])
    have k3 := hcell 3 ((c.length % 256 : Nat) : Int) (by simp [Der.tlv, e])
    refine (der_3 g L.length cap p en t _ _ w k0 k1 k2 k3 (by omega) (by omega) (by omega) (by omega) (by omega) (by omega) (by omega) hn hmax).mono ?_
    rintro _ _ ⟨rfl, rfl⟩
    exact ⟨ret4 (by omega) (by omega), rfl⟩
  · have e : Der.lenOct c.length = [131, ((c.length / 65536 : Nat) : Int), ((c.length / 256 % 256 : Nat) : Int), ((c.length % 256 : Nat) : Int)] := Der.lenOct_4 h
    have e' : (Der.lenOct c.length).length = 4 := by rw [e]; rfl
    have k0 := hcell 0 t (by simp [Der.tlv])
    have k1 := hcell 1 131 (by simp [Der.tlv, e])
    have k2 := hcell 2 ((c.length / 65536 : Nat) : Int) (by simp [Der.tlv, e])
    have k3 := hcell 3 ((c.length / 256 % 256 : Nat) : Int) (by simp [Der.tlv, e])
    have k4 := hcell 4 ((c.length % 256 : Nat) : Int) (by simp [Der.tlv, e])
    refine (der_4 g L.length cap p en t _ _ _ w k0 k1 k2 k3 k4 (by omega) (by omega) (by omega) (by omega) (by omega) (by omega) (by omega) (by omega) (by omega) hn hmax).mono ?_
    rintro _ _ ⟨rfl, rfl⟩
    exact ⟨ret4 (by omega) (by omega), rfl⟩

set_option maxHeartbeats 400000 in
set_option maxRecDepth 100000 in
theorem same_true (ao : Option Addr) (b o n cap : Nat) (s : ByteArray) (w : World) (hn : s.size = n) (hmax : n ≤ 1000000) (hao : 0 < n → ao = some ⟨b, o, none⟩)
    (hc : ∀ j (h : j < s.size), w.cell? ⟨b, o + j, none⟩ = some (.int .u8 (s[j].toNat : Int))) :
    Calls Tryd.prog 11 #[.slice ao n cap, .string s] w fun e w' => e = .returned (.bool true) ∧ Below w.heap.size w w' := by
  have h0 : ((n : Int) != (s.size : Int)) = false := by rw [hn]; simp
  have HN := (show Hid _ from hn)
  have hsn : n ≤ s.size := by omega
  have hns : s.size ≤ n := by omega
  clear hn
  go_enter Tryd.func11, Tryd.ntmps11
  go_wp2
  go_loopw [5] (fun i wr => ∃ k : Nat, k ≤ n ∧ i = .int .i64 k ∧ Below w.heap.size w wr) (fun i _ => n - (intOf i).toNat)
  case atStart => exact ⟨0, Nat.zero_le _, rfl, Below.refl _ _⟩
  case round =>
    obtain ⟨k, hk, rfl, hB⟩ := hrel
    by_cases hlt : k < n
    · obtain rfl := hao (by omega)
      have hks : k < s.size := by omega
      have hck := cell_b hB (hc k hks)
      have hI : (k : Int) < (n : Int) := by omega
      have hI2 : (k : Int) < (s.size : Int) := by omega
      clear hc hao
      go_wp2
      go_region
      go_wp2
      go_roundw
      case rel => exact ⟨k + 1, by omega, by go_num, hB.drew⟩
      case measure => simp [intOf]; omega
    · clear hc hao
      go_wp2
      go_ret
      exact ⟨rfl, hB⟩

theorem take_next {A B : List Int} {k : Nat} {x : Int} (h : A.take k = B.take k) (ha : A[k]? = some x) (hb : B[k]? = some x) : A.take (k + 1) = B.take (k + 1) := by
  rw [List.take_add_one, List.take_add_one, h, ha, hb]

theorem ne_of_at {A B : List Int} {k : Nat} {x y : Int} (ha : A[k]? = some x) (hb : B[k]? = some y) (h : ¬ x = y) : decide (A = B) = false := by
  rw [decide_eq_false_iff_not]
  rintro rfl
  rw [ha] at hb
  exact h (Option.some.inj hb)

set_option maxHeartbeats 400000 in
set_option maxRecDepth 100000 in
theorem eq_any (ga gb ca cb : Nat) (A B : List Int) (w : World) (hmA : A.length ≤ 1000000) (hmB : B.length ≤ 1000000)
    (hA : ∀ j x, A[j]? = some x → w.cell? ⟨ga, j, none⟩ = some (.int .u8 x)) (hB : ∀ j x, B[j]? = some x → w.cell? ⟨gb, j, none⟩ = some (.int .u8 x)) :
    Calls Tryd.prog 7 #[.slice (some ⟨ga, 0, none⟩) A.length ca, .slice (some ⟨gb, 0, none⟩) B.length cb] w fun e w' => e = .returned (.bool (decide (A = B))) ∧ Below w.heap.size w w' := by
  by_cases hl : A.length = B.length
  · obtain ⟨n, hnA⟩ : ∃ n, A.length = n := ⟨_, rfl⟩
    have hnB : B.length = n := by omega
    rw [hnA, hnB]
    rw [hnA] at hmA
    have HA := (show Hid _ from hnA)
    have HB := (show Hid _ from hnB)
    clear hnA hnB hl hmB
    have h0 : ((n : Int) != (n : Int)) = false := by simp
    go_enter Tryd.func7, Tryd.ntmps7
    go_wp2
    go_loopw [5] (fun i wr => ∃ k : Nat, k ≤ n ∧ i = .int .i64 k ∧ A.take k = B.take k ∧ Below w.heap.size w wr) (fun i _ => n - (intOf i).toNat)
    case atStart => exact ⟨0, Nat.zero_le _, rfl, rfl, Below.refl _ _⟩
    case round =>
      obtain ⟨k, hk, rfl, hT, hBl⟩ := hrel
      have HT := (show Hid _ from hT)
      clear hT
      by_cases hlt : k < n
      · obtain ⟨x, hx⟩ : ∃ x, A[k]? = some x := ⟨A[k]'(by have := HA.out; omega), List.getElem?_eq_getElem _⟩
        obtain ⟨y, hy⟩ : ∃ y, B[k]? = some y := ⟨B[k]'(by have := HB.out; omega), List.getElem?_eq_getElem _⟩
        have hcx := cell_b hBl (hA k x hx)
        have hcy := cell_b hBl (hB k y hy)
        have hI : (k : Int) < (n : Int) := by omega
        have HX := (show Hid _ from hx)
        have HY := (show Hid _ from hy)
        clear hA hB hx hy
        by_cases hxy : x = y
        · have hb : (x != y) = false := by simp [hxy]
          have HE := (show Hid _ from hxy)
          clear hxy
          go_wp2
          go_region
          go_wp2
          go_roundw
          case rel => exact ⟨k + 1, by omega, by go_num, take_next HT.out HX.out (by rw [HE.out]; exact HY.out), hBl.drew⟩
          case measure => simp [intOf]; omega
        · have hb : (x != y) = true := by simp [hxy]
          have HF := (show Hid _ from ne_of_at HX.out HY.out hxy)
          clear hxy
          go_wp2
          go_region
          go_wp2
          go_ret
          exact ⟨by rw [HF.out]; rfl, hBl.drew⟩
      · have e : decide (A = B) = true := by
          have e1 := HT.out
          rw [List.take_of_length_le (by have := HA.out; omega), List.take_of_length_le (by have := HB.out; omega)] at e1
          simp [e1]
        have HF := (show Hid _ from e)
        clear e hA hB
        go_wp2
        go_ret
        exact ⟨by rw [HF.out]; rfl, hBl⟩
  · have hne : decide (A = B) = false := by rw [decide_eq_false_iff_not]; rintro rfl; exact hl rfl
    rw [hne]
    have h0 : ((A.length : Int) != (B.length : Int)) = true := by simp; omega
    clear hA hB
    go_enter Tryd.func7, Tryd.ntmps7
    go_wp2
    go_ret
    exact ⟨rfl, Below.refl _ _⟩

theorem bytes_at (s : ByteArray) (j : Nat) (h : j < s.size) : (bytes s)[j]? = some (s[j].toNat : Int) := by
  unfold bytes
  rw [List.getElem?_map]
  have h' : j < s.data.size := h
  have : s.data.toList[j]? = some s[j] := by rw [Array.getElem?_toList, Array.getElem?_eq_getElem h']; rfl
  rw [this]; rfl

set_option maxHeartbeats 400000 in
set_option maxRecDepth 100000 in
theorem ends_any (g cap : Nat) (A pre : List Int) (s : ByteArray) (w : World) (hA : A = pre ++ bytes s) (hm : A.length ≤ 1000000) (hcap : A.length < cap)
    (hc : ∀ j x, A[j]? = some x → w.cell? ⟨g, j, none⟩ = some (.int .u8 x)) :
    Calls Tryd.prog 8 #[.slice (some ⟨g, 0, none⟩) A.length cap, .string s] w fun e w' => e = .returned (.bool true) ∧ Below w.heap.size w w' := by
  have hl : A.length = pre.length + s.size := by rw [hA, List.length_append, bytes_len]
  have hcs : ∀ j (h : j < s.size), w.cell? ⟨g, A.length - s.size + j, none⟩ = some (.int .u8 (s[j].toNat : Int)) := by
    intro j h
    refine hc _ _ ?_
    rw [hA, List.getElem?_append_right (by rw [List.length_append, bytes_len]; omega), List.length_append, bytes_len, show pre.length + s.size - s.size + j - pre.length = j by omega]
    exact bytes_at s j h
  have h1 : s.size ≤ A.length := by omega
  have HC := (show Hid _ from hcs)
  clear hcs hc hl hA
  go_enter Tryd.func8, Tryd.ntmps8
  go_wp2_with fail
  refine (same_true (some ⟨g, A.length - s.size, none⟩) g (A.length - s.size) (A.length - (A.length - s.size)) (cap - (A.length - s.size)) s w (by omega) (by omega) (fun _ => rfl) HC.out).mono ?_
  rintro e w' ⟨rfl, hb⟩
  go_wp2
  go_ret
  exact ⟨rfl, hb⟩
end Go.Proofs.Qxb6616025aDoor
