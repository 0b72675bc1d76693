/-
  THE WALKS, 4: the law FnFieldNamesFreshEachCall at a list that is not nil.
-/
import Derived.Test.Qxb6609080aWalks3
namespace Go.Proofs.Qxb6609080a
open Go.RowKit

theorem get_some {S : List ByteArray} {n k : Nat} (h : S.length = n) (hk : k < n) : ∃ x, S[k]? = some x := ⟨S[k]'(by omega), List.getElem?_eq_getElem _⟩

theorem marked_read {w : World} {B g n c k : Nat} {L : List ByteArray} {x : ByteArray} (ho : w.ownsRow B 9 1 (.slice (some ⟨g, 0, none⟩) n c) n ((marked k L).map Value.string)) (hl : L.length = n) (h : L[k]? = some x) : w.cell? ⟨g, k, none⟩ = some (.string x) := by
  have hk : k < L.length := (List.getElem?_eq_some_iff.1 h).1
  rw [ho.cellAt k (by omega), List.getElem?_map, marked_at k k L x h, if_neg (by omega)]; rfl

theorem marked_next {w : World} {B g n c k : Nat} {L : List ByteArray} {x : ByteArray} (ho : w.ownsRow B 9 1 (.slice (some ⟨g, 0, none⟩) n c) n ((marked k L).map Value.string)) (h : L[k]? = some x) :
    (w.setCell ⟨g, k, none⟩ (.string (x ++ sign))).ownsRow B 9 1 (.slice (some ⟨g, 0, none⟩) n c) n ((marked (k + 1) L).map Value.string) := by
  have := (ho.stored k (.string (x ++ sign))).1
  rwa [marked_step k L x h] at this

theorem marked_end {w : World} {B g n c j : Nat} {L : List ByteArray} {x : ByteArray} (ho : w.ownsRow B 9 1 (.slice (some ⟨g, 0, none⟩) n c) n ((marked n L).map Value.string)) (hl : L.length = n) (h : L[j]? = some x) : w.cell? ⟨g, j, none⟩ = some (.string (x ++ sign)) := by
  have hk : j < L.length := (List.getElem?_eq_some_iff.1 h).1
  rw [ho.cellAt j (by omega), List.getElem?_map, marked_at n j L x h, if_pos (by omega)]; rfl

theorem plain_end {w : World} {B g n c j : Nat} {L : List ByteArray} {x : ByteArray} (ho : w.ownsRow B 9 1 (.slice (some ⟨g, 0, none⟩) n c) n (L.map Value.string)) (hl : L.length = n) (h : L[j]? = some x) : w.cell? ⟨g, j, none⟩ = some (.string x) := by
  have hk : j < L.length := (List.getElem?_eq_some_iff.1 h).1
  rw [ho.cellAt j (by omega), List.getElem?_map, h]; rfl

theorem small_cons {S : List ByteArray} (h : AllSmall S) : AllSmall (date :: S) := by
  intro j x hj
  cases j with
  | zero => simp at hj; subst hj; decide
  | succ j => exact h j x (by simpa using hj)

theorem holds_at {w : World} {g n k : Nat} {S : List ByteArray} {x : ByteArray} (h : HoldsS w (.slice (some ⟨g, 0, none⟩) n n) S) (hx : S[k]? = some x) : w.cell? ⟨g, k, none⟩ = some (.string x) := by
  rcases h with ⟨e, _⟩ | ⟨ad, c, e, hc⟩
  · cases e
  · simp only [Value.slice.injEq, Option.some.injEq] at e
    obtain ⟨rfl, _, _⟩ := e
    have := hc k (.string x) (by simp [hx])
    rwa [Addr.add_lit, Nat.zero_add] at this

/-- A call of ZZfieldNames on a list of n strings. -/
theorem zz_list (v : Value) (S : List ByteArray) (n : Nat) (w : World) (h : HoldsS w v S) (hn : S.length = n) (hl : n ≤ 65536) :
    Calls Try.prog 6 #[v] w fun e w' => ∃ g c, e = .returned (.slice (some ⟨g, 0, none⟩) (n + 1) c) ∧ w.heap.size ≤ g ∧ g < w'.heap.size ∧ Hid (w'.ownsRow w.heap.size 9 1 (.slice (some ⟨g, 0, none⟩) (n + 1) c) (n + 1) ((date :: S).map Value.string)) ∧ Below w.heap.size w w' := by
  subst hn
  refine (zz_any v S w h hl).mono ?_
  rintro e w' ⟨v', rfl, ho, hb⟩
  obtain ⟨g, c, rfl, h1, h2⟩ := own_form ho
  exact ⟨g, c, rfl, h1, h2, ho, hb⟩

set_option maxHeartbeats 4000000 in
set_option maxRecDepth 100000 in
theorem law_full (ad : Addr) (b off n cap : Nat) (S : List ByteArray) (w : World) (had : 0 < n → ad = ⟨b, off, none⟩) (hn : S.length = n) (hm : n ≤ maxLen) (hc : ∀ j x, S[j]? = some x → w.cell? ⟨b, off + j, none⟩ = some (.string x)) :
    Calls Try.prog 3 #[.slice (some ad) n cap] w fun e w' => e = .returned (.bool true) ∧ Below w.heap.size w w' := by
  obtain ⟨i0, hi, hz0, hz1, hz2⟩ := info_parts Try.info9
  have hne := fun w => run_neq_slice_nil_any (P := Try.prog) w 22 9 (some ad) n cap 0 0 Try.underlying22
  have hz := bytes_any (some ad) b off n cap S w hn hm (fun h => by rw [had h]) hc
  have HC := (show Hid _ from hc)
  have HN := (show Hid _ from hn)
  have HA := (show Hid _ from had)
  clear hn had
  unfold maxLen at hm
  by_cases hbig : n ≤ 65536
  · have hf := fit_any (some ad) b off n cap S w HN.out hbig (fun h => by rw [HA.out h]) hc
    clear hc
    go_enter Try.func3, Try.ntmps3
    go_wp2_with fail
    refine hz.mono ?_
    rintro e w1 ⟨q, rfl, rfl, hsm⟩
    cases q
    · go_wp2
      go_ret
      exact ⟨rfl, Below.refl _ _⟩
    have hs : Hid (AllSmall S) := hsm rfl
    clear hsm
    go_wp2_with fail
    refine hf.mono ?_
    rintro e w ⟨q, rfl, rfl, -⟩
    clear hf hz
    cases q
    · go_wp2
      go_ret
      exact ⟨rfl, Below.refl _ _⟩
    go_wp2_with (first
      | (at_make; refine wpList_make_full _ rfl _ _ 22 rfl w.heap.size 9 i0 (.string ByteArray.empty) 1 Try.underlying22 hi hz0 hz1 _ _ _ _ n rfl rfl rfl rfl ?b2 ?b3 (Nat.le_refl _) ?_))
    case b2 => first | omega | (rw [hz2]; omega)
    case b3 => unfold maxLen; omega
    intro w1 hown1 hgrow1
    have R1 : Hid (w1.heap[w.heap.size]? = some (.cells (madeCells #[.string ByteArray.empty] n).toList.toArray 9 (0, 0))) := full_row hown1
    have hlen0 : (madeCells #[.string ByteArray.empty] n).toList.length = n := by have := hown1.1; simpa using this
    have hlen1 := (show Hid _ from hlen0)
    clear hlen0
    have hB1 : Below w.heap.size w w1 := (Below.refl _ _).grown hgrow1 (Nat.le_refl _) (fun k h => by cases h)
    obtain ⟨Z, hZ⟩ : ∃ Z, Z = (madeCells #[.string ByteArray.empty] n).toList := ⟨_, rfl⟩
    obtain ⟨X, hX⟩ : ∃ X, X = S.map Value.string := ⟨_, rfl⟩
    rw [← hZ] at R1 hlen1
    have HX := (show Hid _ from hX)
    have hxl : X.length = n := by rw [hX, List.length_map]; exact HN.out
    have HXL := (show Hid _ from hxl)
    have hpos : 0 < X.length → some (⟨w.heap.size, 0, none⟩ : Addr) = some ⟨w.heap.size, 0, none⟩ ∧ ∃ a', some ad = some a' ∧ ∀ j v, X[j]? = some v → w1.cell? (a'.add j) = some v := by
      intro hp
      refine ⟨rfl, ad, rfl, fun j v hj => ?_⟩
      rw [HA.out (by omega), Addr.add_lit]
      rw [hX, List.getElem?_map] at hj
      cases hx : S[j]? with
      | none => rw [hx] at hj; cases hj
      | some x => rw [hx] at hj; cases hj; exact cell_b hB1 (HC.out j x hx)
    have HP := (show Hid _ from hpos)
    have h1c : ∀ v ∈ X, v.oneCell' = true := by rw [hX]; exact strs_oneCell S
    have H1C := (show Hid _ from h1c)
    clear hown1 hgrow1 hZ hX hxl hpos h1c
    go_wp2_with (refine wpList_copy_splice rfl (.tmp 22) (.tmp 23) 22 22 rfl 9 Try.underlying22 size9 _ _ n n n cap rfl rfl w.heap.size 0 Z 9 R1.out X (by rw [HXL.out]; simp) HP.out (by rw [HXL.out, hlen1.out]; omega) H1C.out w.heap.size w hB1 (Nat.le_refl _) ?_)
    intro w2 R2 hB2
    have hh : HoldsS w2 (.slice (some ⟨w.heap.size, 0, none⟩) n n) S := by
      have := R2.out
      rw [splice_all (by rw [HXL.out, hlen1.out]), HX.out] at this
      have := row_holds this
      rwa [HN.out] at this
    clear R1 R2 HP H1C HX HXL hlen1 hB1
    have hsd : Hid (AllSmall (date :: S)) := small_cons hs.out
    have hld : Hid ((date :: S).length = n + 1) := by show (date :: S).length = n + 1; rw [List.length_cons, HN.out]
    go_wp2_with fail
    refine (zz_list _ S n w2 hh HN.out hbig).mono ?_
    rintro e w3 ⟨g1, c1, rfl, hg1, hg1', ho1, hB3⟩
    go_wp2
    go_loopw [5] (fun i wr => ∃ k : Nat, k ≤ n + 1 ∧ i = .int .i64 k ∧ Hid (wr.ownsRow w2.heap.size 9 1 (.slice (some ⟨g1, 0, none⟩) (n + 1) c1) (n + 1) ((marked k (date :: S)).map Value.string)) ∧ Below w2.heap.size w2 wr) (fun i _ => n + 1 - (intOf i).toNat)
    case atStart => exact ⟨0, Nat.zero_le _, rfl, by rw [marked_zero]; exact ho1, hB3⟩
    case round =>
      obtain ⟨k, hk, rfl, hok, hBk⟩ := hrel
      by_cases hlt : k < n + 1
      · obtain ⟨x, hx⟩ := get_some hld.out hlt
        have hcx := marked_read hok.out hld.out hx
        have hfx := hok.out.frozenAt k
        have hsx := hsd.out k x hx
        have HXX := (show Hid _ from hx)
        have hI : (k : Int) < (n : Int) + 1 := by omega
        clear hx
        go_wp2
        go_roundw
        case rel => exact ⟨k + 1, by omega, by go_num, marked_next hok.out HXX.out, hBk.setCell (p := ⟨g1, k, none⟩) hg1 _⟩
        case measure => simp [intOf]; omega
      · obtain rfl : k = n + 1 := by omega
        have hg1k : g1 < wr.heap.size := Nat.lt_of_lt_of_le (hok.out.lt g1 rfl).2 (Nat.le_refl _)
        go_wp2_with fail
        refine (zz_list _ S n wr (hh.below hBk) HN.out hbig).mono ?_
        rintro e w4 ⟨g2, c2, rfl, hg2, hg2', ho2, hB4⟩
        have hof : Hid (w4.ownsRow w2.heap.size 9 1 (.slice (some ⟨g1, 0, none⟩) (n + 1) c1) (n + 1) ((marked (n + 1) (date :: S)).map Value.string)) := own_below hok.out hB4
        have hBw : Below w.heap.size w w4 := (hB2.trans (hBk.mono hB2.size)).trans (hB4.mono (Nat.le_trans hB2.size hBk.size))
        have k1 : w4.cell? ⟨g1, 0, none⟩ = some (.string { data := #[100, 97, 116, 101, 35] }) := by rw [← date_sign]; exact marked_end hof.out hld.out rfl
        have k2 : w4.cell? ⟨g2, 0, none⟩ = some (.string { data := #[100, 97, 116, 101] }) := plain_end ho2.out hld.out rfl
        have hh4 : HoldsS w4 (.slice (some ⟨w.heap.size, 0, none⟩) n n) S := (hh.below hBk).below hB4
        go_wp2
        go_loopw [7] (fun i wr => ∃ k : Nat, k ≤ n ∧ i = .int .i64 k ∧ Below w4.heap.size w4 wr) (fun i _ => n - (intOf i).toNat)
        case atStart => exact ⟨0, Nat.zero_le _, rfl, Below.refl _ _⟩
        case round =>
          obtain ⟨j, hj, rfl, hBj⟩ := hrel
          by_cases hlj : j < n
          · obtain ⟨x, hx⟩ := get_some HN.out hlj
            obtain rfl := HA.out (by omega)
            have q1 := cell_b hBj (holds_at hh4 hx)
            have q2 := cell_b (hBw.trans (hBj.mono hBw.size)) (HC.out j x hx)
            have q3 := cell_b hBj (plain_end (j := j + 1) (x := x) ho2.out hld.out (by simpa using hx))
            have q4 : _ = some (Value.string (x ++ { data := #[35] })) := cell_b hBj (marked_end (j := j + 1) (x := x) hof.out hld.out (by simpa using hx))
            have hsx := hs.out j x hx
            have hI : (j : Int) < (n : Int) := by omega
            have hI2 : (j : Int) + 1 < (n : Int) + 1 := by omega
            clear hx k1 k2
            go_wp2
            go_quiet (fail)
            go_wp2
            go_roundw
            case rel => exact ⟨j + 1, by omega, by go_num, below_drewN hBj _⟩
            case measure => simp [intOf]; omega
          · go_wp2
            go_ret
            exact ⟨rfl, hBw.trans (hBj.mono hBw.size)⟩
  · go_enter Try.func3, Try.ntmps3
    go_wp2_with fail
    refine hz.mono ?_
    rintro e w1 ⟨q, rfl, rfl, hsm⟩
    cases q
    · go_wp2
      go_ret
      exact ⟨rfl, Below.refl _ _⟩
    · go_wp2
      go_ret
      exact ⟨rfl, Below.refl _ _⟩
end Go.Proofs.Qxb6609080a
