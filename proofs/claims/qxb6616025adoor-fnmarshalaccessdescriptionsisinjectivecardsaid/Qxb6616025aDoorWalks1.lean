/-
  THE WALKS, 1: appendIdentifier, appendLength.
-/
import Derived.Test.Qxb6616025aDoorRows
import Derived.Test.Qxb6616025aDoorPlain
import Derived.WalkKit
import Derived.WalkSpells
import Derived.WalkLawsBesides
import Derived.Deep.RegionLaw
namespace Go.Proofs.Qxb6616025aDoor
open Go.RowKit

theorem Tryd.info5 : (Tryd.prog.info? 5).map (fun i => (i.zero, i.size, i.bytes)) = some (some (.int .u8 0), 1, 1) := by kernel_rfl

theorem gb_trans {a b c : World} {r : Option Nat} (h : a.grownBy b r) (k : b.grownBy c r) : a.grownBy c r :=
  ⟨k.os.trans h.os, k.tape.trans h.tape, k.output.trans h.output, Nat.le_trans h.size k.size, fun i hi hr => (k.block i (Nat.lt_of_lt_of_le hi h.size) hr).trans (h.block i hi hr)⟩

theorem gb_drew {a b : World} {r : Option Nat} (h : a.grownBy b r) : a.grownBy b.drew r := ⟨h.os, h.tape, h.output, h.size, h.block⟩

/-- A tag that the road hands on, and its identifier octet. -/
def IsTag (tv : Value) (t : Int) : Prop :=
  (tv = .agg #[.int .u8 0, .bool true, .int .u32 16] ∧ t = 48) ∨ (tv = .agg #[.int .u8 0, .bool false, .int .u32 6] ∧ t = 6) ∨ (tv = .agg #[.int .u8 2, .bool false, .int .u32 6] ∧ t = 134)

theorem one_new {w : World} {b : Int} {o : Addr} (h : w.cell? o = some (.int .u8 b)) : ∀ j u, ([Value.int .u8 b])[j]? = some u → w.cell? (o.add j) = some u := by
  intro j u hj
  match j, hj with
  | 0, hj =>
    simp at hj
    subst hj
    have : o.add 0 = o := by cases o with | mk b o s => cases s <;> simp [Addr.add]
    rw [this]; exact h

theorem one_cell (b : Int) : ∀ u ∈ [Value.int .u8 b], u.oneCell' = true := by
  intro u hu; simp at hu; subst hu; rfl

set_option maxHeartbeats 400000 in
theorem ident_any (base g k cap : Nat) (xs : List Int) (tv : Value) (t : Int) (ht : IsTag tv t) (w : World) (hroom : k + 1 ≤ cap)
    (hown : w.ownsRow base 5 1 (.slice (some ⟨g, 0, none⟩) k cap) k (xs.map (Value.int .u8))) :
    Calls Tryd.prog 16 #[.slice (some ⟨g, 0, none⟩) k cap, tv] w fun e w' => e = .returned (.slice (some ⟨g, 0, none⟩) (k + 1) cap) ∧
      w'.ownsRow base 5 1 (.slice (some ⟨g, 0, none⟩) (k + 1) cap) (k + 1) ((xs ++ [t]).map (Value.int .u8)) ∧ w.grownBy w' (some g) := by
  obtain ⟨i0, hi, hz0, hz1, hz2⟩ := info_parts Tryd.info5
  rcases ht with ⟨rfl, rfl⟩ | ⟨rfl, rfl⟩ | ⟨rfl, rfl⟩
  · go_enter Tryd.func16, Tryd.ntmps16
    go_wp2_with (at_builtin; refine wpList_append_fits _ rfl (.tmp 19) (.tmp 25) 23 rfl base 5 i0 1 Tryd.underlying23 hi hz1 g k cap _ rfl ((hown.alloc _).alloc _) ⟨w.heap.size + 1, 0, none⟩ 1 1 [.int .u8 48] rfl rfl (one_new (by first | (simp; done) | (simp; decide +kernel))) (one_cell _) hroom ?_; intro w1 hown1 hgrow1)
    go_ret
    exact ⟨rfl, by simpa using hown1, gb_trans (gb_trans (World.grownBy_alloc _ _ _) (World.grownBy_alloc _ _ _)) hgrow1⟩
  · go_enter Tryd.func16, Tryd.ntmps16
    go_wp2_with (at_builtin; refine wpList_append_fits _ rfl (.tmp 19) (.tmp 25) 23 rfl base 5 i0 1 Tryd.underlying23 hi hz1 g k cap _ rfl ((hown.alloc _).alloc _) ⟨w.heap.size + 1, 0, none⟩ 1 1 [.int .u8 6] rfl rfl (one_new (by first | (simp; done) | (simp; decide +kernel))) (one_cell _) hroom ?_; intro w1 hown1 hgrow1)
    go_ret
    exact ⟨rfl, by simpa using hown1, gb_trans (gb_trans (World.grownBy_alloc _ _ _) (World.grownBy_alloc _ _ _)) hgrow1⟩
  · go_enter Tryd.func16, Tryd.ntmps16
    go_wp2_with (at_builtin; refine wpList_append_fits _ rfl (.tmp 19) (.tmp 25) 23 rfl base 5 i0 1 Tryd.underlying23 hi hz1 g k cap _ rfl ((hown.alloc _).alloc _) ⟨w.heap.size + 1, 0, none⟩ 1 1 [.int .u8 134] rfl rfl (one_new (by first | (simp; done) | (simp; decide +kernel))) (one_cell _) hroom ?_; intro w1 hown1 hgrow1)
    go_ret
    exact ⟨rfl, by simpa using hown1, gb_trans (gb_trans (World.grownBy_alloc _ _ _) (World.grownBy_alloc _ _ _)) hgrow1⟩

set_option maxHeartbeats 400000 in
set_option maxRecDepth 100000 in
theorem length_1 (base g k cap n : Nat) (xs : List Int) (w : World) (hn : n < 128) (hroom : k + 1 ≤ cap)
    (hown : w.ownsRow base 5 1 (.slice (some ⟨g, 0, none⟩) k cap) k (xs.map (Value.int .u8))) :
    Calls Tryd.prog 17 #[.slice (some ⟨g, 0, none⟩) k cap, .int .i64 n] w fun e w' => e = .returned (.slice (some ⟨g, 0, none⟩) (k + 1) cap) ∧
      w'.ownsRow base 5 1 (.slice (some ⟨g, 0, none⟩) (k + 1) cap) (k + 1) ((xs ++ [(n : Int)]).map (Value.int .u8)) ∧ w.grownBy w' (some g) := by
  obtain ⟨i0, hi, hz0, hz1, hz2⟩ := info_parts Tryd.info5
  go_enter Tryd.func17, Tryd.ntmps17
  go_wp2_with (at_builtin; refine wpList_append_fits _ rfl (.tmp 9) (.tmp 12) 23 rfl base 5 i0 1 Tryd.underlying23 hi hz1 g k cap _ rfl (hown.alloc _) ⟨w.heap.size, 0, none⟩ 1 1 [.int .u8 n] rfl rfl (one_new (by simp; try omega)) (one_cell _) hroom ?_; intro w1 hown1 hgrow1)
  go_ret
  exact ⟨rfl, by simpa using hown1, gb_trans (World.grownBy_alloc _ _ _) hgrow1⟩

/-- append within the capacity, as one step of a region that draws its order. -/
theorem step_append_fits {P : Program} {ops : Array Oper} {o : Oper} {a : Act} {w : World} {K : Act → World → Prop} {Q : Exit → Act → World → Prop} {E : Prop}
    (hg : o.guard = none) (s x : Operand) (t : TypeId) (hop : o.op = Op.call { callee := Callee.builtin Builtin.append, args := #[s, x], argTypes := #[t, t] })
    (base : Nat) (e : TypeId) (i : TypeInfo) (size : Nat) (h1 : P.underlying t = some (.slice e)) (h2 : P.info? e = some i) (h4 : i.size = size)
    (g k cap : Nat) (xs : List Value) (hs : a.eval s = .slice (some ⟨g, 0, none⟩) k cap) (hown : w.ownsRow base e size (.slice (some ⟨g, 0, none⟩) k cap) k xs) (ad : Addr) (m c : Nat) (news : List Value) (hx : a.eval x = .slice (some ad) m c) (hn : news.length = m * size)
    (hc : ∀ j u, news[j]? = some u → w.cell? (ad.add j) = some u) (h1c : ∀ u ∈ news, u.oneCell' = true) (b1 : k + m ≤ cap)
    (hK : ∀ w', w'.ownsRow base e size (.slice (some ⟨g, 0, none⟩) (k + m) cap) (k + m) (xs ++ news) → w.grownBy w' (some g) → K (a.put o.dst (.slice (some ⟨g, 0, none⟩) (k + m) cap)) w') :
    if Region.wanted o (yielded ops a.tmps) = true then Oper.wp P o a w K Q else E := by
  have hw : Region.wanted o (yielded ops a.tmps) = true := by simp [Region.wanted, hg]
  rw [if_pos hw]
  obtain ⟨w', hrun, r1, r2⟩ := run_append_fits (P := P) w base t o.type e i size h1 h2 h4 g k cap xs hown ad m c news hn hc h1c b1
  unfold Oper.wp
  simp [execOp, hop, resolve, invoke, builtin, hs, hx, hrun, Result.andThen]
  exact hK _ r1 r2

theorem news_of {w : World} {b off : Nat} {l : List Int} (h : ∀ j x, l[j]? = some x → w.cell? ⟨b, off + j, none⟩ = some (.int .u8 x)) :
    ∀ j u, (l.map (Value.int .u8))[j]? = some u → w.cell? ((⟨b, off, none⟩ : Addr).add j) = some u := by
  intro j u hj
  rw [Addr.add_lit]
  rw [List.getElem?_map] at hj
  cases hx : l[j]? with
  | none => rw [hx] at hj; simp at hj
  | some x => rw [hx] at hj; simp at hj; subst hj; exact h j x hx

theorem news1 {w : World} {b off : Nat} {x0 : Int} (h0 : w.cell? ⟨b, off, none⟩ = some (.int .u8 x0)) :
    ∀ j u, ([x0].map (Value.int .u8))[j]? = some u → w.cell? ((⟨b, off, none⟩ : Addr).add j) = some u :=
  news_of fun j x hj => match j, hj with
    | 0, hj => by simp at hj; subst hj; exact h0
theorem news2 {w : World} {b off : Nat} {x0 x1 : Int} (h0 : w.cell? ⟨b, off, none⟩ = some (.int .u8 x0)) (h1 : w.cell? ⟨b, off + 1, none⟩ = some (.int .u8 x1)) :
    ∀ j u, ([x0, x1].map (Value.int .u8))[j]? = some u → w.cell? ((⟨b, off, none⟩ : Addr).add j) = some u :=
  news_of fun j x hj => match j, hj with
    | 0, hj => by simp at hj; subst hj; exact h0
    | 1, hj => by simp at hj; subst hj; exact h1
theorem news3 {w : World} {b off : Nat} {x0 x1 x2 : Int} (h0 : w.cell? ⟨b, off, none⟩ = some (.int .u8 x0)) (h1 : w.cell? ⟨b, off + 1, none⟩ = some (.int .u8 x1)) (h2 : w.cell? ⟨b, off + 2, none⟩ = some (.int .u8 x2)) :
    ∀ j u, ([x0, x1, x2].map (Value.int .u8))[j]? = some u → w.cell? ((⟨b, off, none⟩ : Addr).add j) = some u :=
  news_of fun j x hj => match j, hj with
    | 0, hj => by simp at hj; subst hj; exact h0
    | 1, hj => by simp at hj; subst hj; exact h1
    | 2, hj => by simp at hj; subst hj; exact h2

set_option maxHeartbeats 1000000 in
set_option maxRecDepth 100000 in
theorem length_4 (base g k cap n : Nat) (xs : List Int) (w : World) (hn0 : 65536 ≤ n) (hn : n < 16777216) (hroom : k + 4 ≤ cap)
    (hown : w.ownsRow base 5 1 (.slice (some ⟨g, 0, none⟩) k cap) k (xs.map (Value.int .u8))) :
    Calls Tryd.prog 17 #[.slice (some ⟨g, 0, none⟩) k cap, .int .i64 n] w fun e w' => e = .returned (.slice (some ⟨g, 0, none⟩) (k + 4) cap) ∧
      w'.ownsRow base 5 1 (.slice (some ⟨g, 0, none⟩) (k + 4) cap) (k + 4) ((xs ++ Der.lenOct n).map (Value.int .u8)) ∧ w.grownBy w' (some g) := by
  obtain ⟨i0, hi, hz0, hz1, hz2⟩ := info_parts Tryd.info5
  have hg : g < w.heap.size := (hown.lt g rfl).2
  rw [Der.lenOct_4 hn0, show ((n / 65536 : Nat) : Int) = (n : Int) / 256 / 256 by omega, show ((n / 256 % 256 : Nat) : Int) = (n : Int) / 256 % 256 by omega, show ((n % 256 : Nat) : Int) = (n : Int) % 256 by omega]
  go_enter Tryd.func17, Tryd.ntmps17
  go_wp2
  refine wp_loop_rounds 4 ?_
  rw [rounds_succ]
  go_wp2
  rw [rounds_succ]
  go_wp2
  rw [rounds_succ]
  go_wp2
  rw [rounds_succ]
  go_wp2
  go_region_law (first
    | (refine step_append_fits rfl (.tmp 24) (.tmp 29) 23 rfl base 5 i0 1 Tryd.underlying23 hi hz1 g k cap _ rfl ((hown.alloc _).alloc _) ⟨w.heap.size + 1, 0, none⟩ 1 1 [.int .u8 131] rfl rfl (one_new (by simp; decide +kernel)) (one_cell _) (by omega) ?_; intro w1 hown1 hgrow1)
    | (refine step_append_fits rfl (.tmp 30) (.tmp 32) 23 rfl base 5 i0 1 Tryd.underlying23 hi hz1 g (k + 1) cap _ rfl hown1 ⟨w.heap.size, 5, none⟩ 3 3 ([(n : Int) / 256 / 256, (n : Int) / 256 % 256, (n : Int) % 256].map (Value.int .u8)) rfl rfl (news3 (hgrow1.cell (a := ⟨w.heap.size, 5, none⟩) (by simp) (by simp; omega)) (hgrow1.cell (a := ⟨w.heap.size, 6, none⟩) (by simp) (by simp; omega)) (hgrow1.cell (a := ⟨w.heap.size, 7, none⟩) (by simp) (by simp; omega))) (ints_oneCell _ _) (by omega) ?_; intro w2 hown2 hgrow2))
  go_wp2
  go_ret
  exact ⟨rfl, by simpa using hown2, gb_trans (gb_trans (gb_drew (gb_trans (World.grownBy_alloc _ _ _) (World.grownBy_alloc _ _ _))) hgrow1) hgrow2⟩

set_option maxHeartbeats 1000000 in
set_option maxRecDepth 100000 in
theorem length_3 (base g k cap n : Nat) (xs : List Int) (w : World) (hn0 : 256 ≤ n) (hn : n < 65536) (hroom : k + 3 ≤ cap)
    (hown : w.ownsRow base 5 1 (.slice (some ⟨g, 0, none⟩) k cap) k (xs.map (Value.int .u8))) :
    Calls Tryd.prog 17 #[.slice (some ⟨g, 0, none⟩) k cap, .int .i64 n] w fun e w' => e = .returned (.slice (some ⟨g, 0, none⟩) (k + 3) cap) ∧
      w'.ownsRow base 5 1 (.slice (some ⟨g, 0, none⟩) (k + 3) cap) (k + 3) ((xs ++ Der.lenOct n).map (Value.int .u8)) ∧ w.grownBy w' (some g) := by
  obtain ⟨i0, hi, hz0, hz1, hz2⟩ := info_parts Tryd.info5
  have hg : g < w.heap.size := (hown.lt g rfl).2
  rw [Der.lenOct_3 hn0 hn, show ((n / 256 : Nat) : Int) = (n : Int) / 256 by omega, show ((n % 256 : Nat) : Int) = (n : Int) % 256 by omega]
  go_enter Tryd.func17, Tryd.ntmps17
  go_wp2
  refine wp_loop_rounds 3 ?_
  rw [rounds_succ]
  go_wp2
  rw [rounds_succ]
  go_wp2
  rw [rounds_succ]
  go_wp2
  go_region_law (first
    | (refine step_append_fits rfl (.tmp 24) (.tmp 29) 23 rfl base 5 i0 1 Tryd.underlying23 hi hz1 g k cap _ rfl ((hown.alloc _).alloc _) ⟨w.heap.size + 1, 0, none⟩ 1 1 [.int .u8 130] rfl rfl (one_new (by simp; decide +kernel)) (one_cell _) (by omega) ?_; intro w1 hown1 hgrow1)
    | (refine step_append_fits rfl (.tmp 30) (.tmp 32) 23 rfl base 5 i0 1 Tryd.underlying23 hi hz1 g (k + 1) cap _ rfl hown1 ⟨w.heap.size, 6, none⟩ 2 2 ([(n : Int) / 256, (n : Int) % 256].map (Value.int .u8)) rfl rfl (news2 (hgrow1.cell (a := ⟨w.heap.size, 6, none⟩) (by simp) (by simp; omega)) (hgrow1.cell (a := ⟨w.heap.size, 7, none⟩) (by simp) (by simp; omega))) (ints_oneCell _ _) (by omega) ?_; intro w2 hown2 hgrow2))
  go_wp2
  go_ret
  exact ⟨rfl, by simpa using hown2, gb_trans (gb_trans (gb_drew (gb_trans (World.grownBy_alloc _ _ _) (World.grownBy_alloc _ _ _))) hgrow1) hgrow2⟩

set_option maxHeartbeats 1000000 in
set_option maxRecDepth 100000 in
theorem length_2 (base g k cap n : Nat) (xs : List Int) (w : World) (hn0 : 128 ≤ n) (hn : n < 256) (hroom : k + 2 ≤ cap)
    (hown : w.ownsRow base 5 1 (.slice (some ⟨g, 0, none⟩) k cap) k (xs.map (Value.int .u8))) :
    Calls Tryd.prog 17 #[.slice (some ⟨g, 0, none⟩) k cap, .int .i64 n] w fun e w' => e = .returned (.slice (some ⟨g, 0, none⟩) (k + 2) cap) ∧
      w'.ownsRow base 5 1 (.slice (some ⟨g, 0, none⟩) (k + 2) cap) (k + 2) ((xs ++ Der.lenOct n).map (Value.int .u8)) ∧ w.grownBy w' (some g) := by
  obtain ⟨i0, hi, hz0, hz1, hz2⟩ := info_parts Tryd.info5
  have hg : g < w.heap.size := (hown.lt g rfl).2
  rw [Der.lenOct_2 hn0 hn]
  go_enter Tryd.func17, Tryd.ntmps17
  go_wp2
  refine wp_loop_rounds 2 ?_
  rw [rounds_succ]
  go_wp2
  rw [rounds_succ]
  go_wp2
  go_region_law (first
    | (refine step_append_fits rfl (.tmp 24) (.tmp 29) 23 rfl base 5 i0 1 Tryd.underlying23 hi hz1 g k cap _ rfl ((hown.alloc _).alloc _) ⟨w.heap.size + 1, 0, none⟩ 1 1 [.int .u8 129] rfl rfl (one_new (by simp; decide +kernel)) (one_cell _) (by omega) ?_; intro w1 hown1 hgrow1)
    | (refine step_append_fits rfl (.tmp 30) (.tmp 32) 23 rfl base 5 i0 1 Tryd.underlying23 hi hz1 g (k + 1) cap _ rfl hown1 ⟨w.heap.size, 7, none⟩ 1 1 ([(n : Int)].map (Value.int .u8)) rfl rfl (news1 (hgrow1.cell (a := ⟨w.heap.size, 7, none⟩) (by simp) (by simp; omega))) (ints_oneCell _ _) (by omega) ?_; intro w2 hown2 hgrow2))
  go_wp2
  go_ret
  exact ⟨rfl, by simpa using hown2, gb_trans (gb_trans (gb_drew (gb_trans (World.grownBy_alloc _ _ _) (World.grownBy_alloc _ _ _))) hgrow1) hgrow2⟩

/-- appendLength, every length below 2^24, where there is room. -/
theorem length_any (base g k cap n : Nat) (xs : List Int) (w : World) (hn : n < 16777216) (hroom : k + (Der.lenOct n).length ≤ cap)
    (hown : w.ownsRow base 5 1 (.slice (some ⟨g, 0, none⟩) k cap) k (xs.map (Value.int .u8))) :
    Calls Tryd.prog 17 #[.slice (some ⟨g, 0, none⟩) k cap, .int .i64 n] w fun e w' => e = .returned (.slice (some ⟨g, 0, none⟩) (k + (Der.lenOct n).length) cap) ∧
      w'.ownsRow base 5 1 (.slice (some ⟨g, 0, none⟩) (k + (Der.lenOct n).length) cap) (k + (Der.lenOct n).length) ((xs ++ Der.lenOct n).map (Value.int .u8)) ∧ w.grownBy w' (some g) := by
  rcases (show n < 128 ∨ (128 ≤ n ∧ n < 256) ∨ (256 ≤ n ∧ n < 65536) ∨ 65536 ≤ n by omega) with h | ⟨h, h'⟩ | ⟨h, h'⟩ | h
  · have e : (Der.lenOct n).length = 1 := by rw [Der.lenOct_1 h]; rfl
    rw [e] at hroom ⊢
    rw [Der.lenOct_1 h]
    exact length_1 base g k cap n xs w h hroom hown
  · have e : (Der.lenOct n).length = 2 := by rw [Der.lenOct_2 h h']; rfl
    rw [e] at hroom ⊢
    exact length_2 base g k cap n xs w h h' hroom hown
  · have e : (Der.lenOct n).length = 3 := by rw [Der.lenOct_3 h h']; rfl
    rw [e] at hroom ⊢
    exact length_3 base g k cap n xs w h h' hroom hown
  · have e : (Der.lenOct n).length = 4 := by rw [Der.lenOct_4 h]; rfl
    rw [e] at hroom ⊢
    exact length_4 base g k cap n xs w h hn hroom hown

end Go.Proofs.Qxb6616025aDoor
