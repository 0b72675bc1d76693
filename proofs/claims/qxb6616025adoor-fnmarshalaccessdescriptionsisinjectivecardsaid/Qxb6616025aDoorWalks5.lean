/-
  THE WALKS, 5: derTLV.
-/
import Derived.Test.Qxb6616025aDoorWalks3
namespace Go.Proofs.Qxb6616025aDoor
open Go.RowKit

theorem results_tmp4 {fn : Func} {t u v x : Tmp} (h : fn.results = #[.tmp t, .tmp u, .tmp v, .tmp x]) (tmps : Array Value) (P : Program) (w : World) :
    (results fn tmps).run P w = .ok (.tuple #[tmps.getD t undef, tmps.getD u undef, tmps.getD v undef, tmps.getD x undef]) w := by
  simp [results, h]

theorem ret4 {t a a' b b' : Int} (h1 : a = a') (h2 : b = b') : Ending.returned (.tuple #[.int .u8 t, .int .i64 a, .int .i64 b, .bool true]) = .returned (.tuple #[.int .u8 t, .int .i64 a', .int .i64 b', .bool true]) := by
  rw [h1, h2]

set_option maxHeartbeats 400000 in
set_option maxRecDepth 100000 in
theorem der_1 (g n cap p en k : Nat) (t : Int) (w : World) (hc0 : w.cell? ⟨g, p, none⟩ = some (.int .u8 t)) (hc1 : w.cell? ⟨g, p + 1, none⟩ = some (.int .u8 k))
    (hk : k < 128) (hen : p + 2 + k ≤ en) (hn : en ≤ n) (hmax : n ≤ 1000000) :
    Calls Tryd.prog 10 #[.slice (some ⟨g, 0, none⟩) n cap, .int .i64 p, .int .i64 en] w fun e w' =>
      e = .returned (.tuple #[.int .u8 t, .int .i64 ((p + 2 : Nat) : Int), .int .i64 ((p + 2 + k : Nat) : Int), .bool true]) ∧ w' = w := by
  go_enter Tryd.func10, Tryd.ntmps10
  go_wp2
  refine bodyPost_ret (results_tmp4 rfl _ _ _) rfl ?_
  exact ⟨ret4 (by omega) (by omega), rfl⟩
theorem wraps_i64_31 (n : Int) (h₀ : 0 ≤ n) (h₁ : n < 2 ^ 31) : IntKind.i64.wrap n = n := by rw [IntKind.wrap_i64]; omega
theorem i64_or8 (x y : Int) (hx₀ : 0 ≤ x) (hx : x % 256 = 0) (hx₁ : x < 2147483648) (h₀ : 0 ≤ y) (h₁ : y < 256) : bits .or .i64 x y = x + y :=
  bits_join .i64 31 (by decide) wraps_i64_31 8 x y hx₀ hx hx₁ h₀ h₁ (by omega)

set_option maxHeartbeats 400000 in
set_option maxRecDepth 100000 in
theorem der_2 (g n cap p en : Nat) (t a : Int) (w : World) (hc0 : w.cell? ⟨g, p, none⟩ = some (.int .u8 t)) (hc1 : w.cell? ⟨g, p + 1, none⟩ = some (.int .u8 129))
    (hc2 : w.cell? ⟨g, p + 2, none⟩ = some (.int .u8 a)) (h0 : 1 ≤ a) (ha0 : 0 ≤ a) (ha1 : a < 256) (hlow : 128 ≤ a)
    (hen : (p : Int) + 3 + (a) ≤ en) (hn : en ≤ n) (hmax : n ≤ 1000000) :
    Calls Tryd.prog 10 #[.slice (some ⟨g, 0, none⟩) n cap, .int .i64 p, .int .i64 en] w fun e w' =>
      e = .returned (.tuple #[.int .u8 t, .int .i64 ((p + 3 : Nat) : Int), .int .i64 (((p + 3 : Nat) : Int) + (a)), .bool true]) ∧ w' = w := by
  have h3 : bits BinOp.and IntKind.i64 129 127 = 1 := by decide +kernel
  have hz : (a == 0) = false := by rw [beq_eq_false_iff_ne]; omega
  have e1 : bits BinOp.or IntKind.i64 0 a = a := by rw [i64_or8 _ _ (by omega) (by omega) (by omega) (by omega) (by omega)]; omega
  go_enter Tryd.func10, Tryd.ntmps10
  go_wp2
  refine wp_loop_rounds 2 ?_
  rw [rounds_succ]
  go_wp2
  rw [rounds_succ]
  go_wp2
  refine bodyPost_ret (results_tmp4 rfl _ _ _) rfl ?_
  exact ⟨ret4 (by omega) (by omega), rfl⟩

set_option maxHeartbeats 400000 in
set_option maxRecDepth 100000 in
theorem der_3 (g n cap p en : Nat) (t a b : Int) (w : World) (hc0 : w.cell? ⟨g, p, none⟩ = some (.int .u8 t)) (hc1 : w.cell? ⟨g, p + 1, none⟩ = some (.int .u8 130))
    (hc2 : w.cell? ⟨g, p + 2, none⟩ = some (.int .u8 a)) (hc3 : w.cell? ⟨g, p + 3, none⟩ = some (.int .u8 b)) (h0 : 1 ≤ a) (ha0 : 0 ≤ a) (ha1 : a < 256) (hb0 : 0 ≤ b) (hb1 : b < 256) (hlow : 128 ≤ (a) * 256 + b)
    (hen : (p : Int) + 4 + ((a) * 256 + b) ≤ en) (hn : en ≤ n) (hmax : n ≤ 1000000) :
    Calls Tryd.prog 10 #[.slice (some ⟨g, 0, none⟩) n cap, .int .i64 p, .int .i64 en] w fun e w' =>
      e = .returned (.tuple #[.int .u8 t, .int .i64 ((p + 4 : Nat) : Int), .int .i64 (((p + 4 : Nat) : Int) + ((a) * 256 + b)), .bool true]) ∧ w' = w := by
  have h3 : bits BinOp.and IntKind.i64 130 127 = 2 := by decide +kernel
  have hz : (a == 0) = false := by rw [beq_eq_false_iff_ne]; omega
  have e1 : bits BinOp.or IntKind.i64 0 a = a := by rw [i64_or8 _ _ (by omega) (by omega) (by omega) (by omega) (by omega)]; omega
  have e2 : bits BinOp.or IntKind.i64 ((a) * 256) b = (a) * 256 + b := i64_or8 _ _ (by omega) (by omega) (by omega) (by omega) (by omega)
  go_enter Tryd.func10, Tryd.ntmps10
  go_wp2
  refine wp_loop_rounds 3 ?_
  rw [rounds_succ]
  go_wp2
  rw [rounds_succ]
  go_wp2
  rw [rounds_succ]
  go_wp2
  refine bodyPost_ret (results_tmp4 rfl _ _ _) rfl ?_
  exact ⟨ret4 (by omega) (by omega), rfl⟩

set_option maxHeartbeats 400000 in
set_option maxRecDepth 100000 in
theorem der_4 (g n cap p en : Nat) (t a b c : Int) (w : World) (hc0 : w.cell? ⟨g, p, none⟩ = some (.int .u8 t)) (hc1 : w.cell? ⟨g, p + 1, none⟩ = some (.int .u8 131))
    (hc2 : w.cell? ⟨g, p + 2, none⟩ = some (.int .u8 a)) (hc3 : w.cell? ⟨g, p + 3, none⟩ = some (.int .u8 b)) (hc4 : w.cell? ⟨g, p + 4, none⟩ = some (.int .u8 c)) (h0 : 1 ≤ a) (ha0 : 0 ≤ a) (ha1 : a < 256) (hb0 : 0 ≤ b) (hb1 : b < 256) (hc0 : 0 ≤ c) (hc1 : c < 256) (hlow : 128 ≤ ((a) * 256 + b) * 256 + c)
    (hen : (p : Int) + 5 + (((a) * 256 + b) * 256 + c) ≤ en) (hn : en ≤ n) (hmax : n ≤ 1000000) :
    Calls Tryd.prog 10 #[.slice (some ⟨g, 0, none⟩) n cap, .int .i64 p, .int .i64 en] w fun e w' =>
      e = .returned (.tuple #[.int .u8 t, .int .i64 ((p + 5 : Nat) : Int), .int .i64 (((p + 5 : Nat) : Int) + (((a) * 256 + b) * 256 + c)), .bool true]) ∧ w' = w := by
  have h3 : bits BinOp.and IntKind.i64 131 127 = 3 := by decide +kernel
  have hz : (a == 0) = false := by rw [beq_eq_false_iff_ne]; omega
  have e1 : bits BinOp.or IntKind.i64 0 a = a := by rw [i64_or8 _ _ (by omega) (by omega) (by omega) (by omega) (by omega)]; omega
  have e2 : bits BinOp.or IntKind.i64 ((a) * 256) b = (a) * 256 + b := i64_or8 _ _ (by omega) (by omega) (by omega) (by omega) (by omega)
  have e3 : bits BinOp.or IntKind.i64 (((a) * 256 + b) * 256) c = ((a) * 256 + b) * 256 + c := i64_or8 _ _ (by omega) (by omega) (by omega) (by omega) (by omega)
  go_enter Tryd.func10, Tryd.ntmps10
  go_wp2
  refine wp_loop_rounds 4 ?_
  rw [rounds_succ]
  go_wp2
  rw [rounds_succ]
  go_wp2
  rw [rounds_succ]
  go_wp2
  rw [rounds_succ]
  go_wp2
  refine bodyPost_ret (results_tmp4 rfl _ _ _) rfl ?_
  exact ⟨ret4 (by omega) (by omega), rfl⟩

end Go.Proofs.Qxb6616025aDoor
