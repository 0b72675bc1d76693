/-
  errors.Is BY ITS CONTRACTS, at a *strconv.NumError and a sentinel (after the guide's worked SentryIs).
-/
import Derived.Test.Qxb6614300aDoorRows
import Derived.WalkKit
import Derived.WalkSpells
import Derived.WalkLawsBesides
import Derived.LaidEql
import Derived.Stop.Asserts
import Derived.RowKitTokens
namespace Go.Proofs.Qxb6614300aDoor
open Go.RowKit Go.Extern.Stop Go.Stop Go.Extern

theorem callTypeOf (v : Value) (w : World) : (callFunc 23 #[.iface 72 v]).run Tryd.prog w = .ok (.value (.iface 61 (.agg #[.pointer (some ⟨5, 72, none⟩)]))) w := by kernel_rfl
theorem callComparable (w : World) : (callFunc 65 #[.agg #[.pointer (some ⟨5, 72, none⟩)]]).run Tryd.prog w = .ok (.value (.bool true)) w := by kernel_rfl
theorem methComparable (v : Value) (w : World) : (Go.method 229 61 v "Comparable").run Tryd.prog w = .ok (65, v) w := by kernel_rfl
theorem methUnwrap (v : Value) (w : World) : (Go.method 229 45 v "Unwrap").run Tryd.prog w = .ok (61, v) w := by kernel_rfl
theorem isComp : (Tryd.prog.info? 72).map (·.comparable) = some true := by kernel_rfl
theorem isSize : (Tryd.prog.info? 74).map (·.size) = some 1 := by kernel_rfl

theorem noIsE (v : Value) (xT : TypeId) (w : World) : (Instr.typeAssert (.iface 72 v) xT 63 true).run Tryd.prog w = .ok (.tuple #[.nilIface, .bool false]) w := run_typeAssert_lacksB Tryd.underlying63 (by kernel_rfl) (by kernel_rfl) v xT w
theorem noUnwrapE (v : Value) (xT : TypeId) (w : World) : (Instr.typeAssert (.iface 72 v) xT 66 true).run Tryd.prog w = .ok (.tuple #[.nilIface, .bool false]) w := run_typeAssert_lacksB Tryd.underlying66 (by kernel_rfl) (by kernel_rfl) v xT w
theorem noUnwrapsE (v : Value) (xT : TypeId) (w : World) : (Instr.typeAssert (.iface 72 v) xT 68 true).run Tryd.prog w = .ok (.tuple #[.nilIface, .bool false]) w := run_typeAssert_lacksB Tryd.underlying68 (by kernel_rfl) (by kernel_rfl) v xT w
theorem noIsN (v : Value) (xT : TypeId) (w : World) : (Instr.typeAssert (.iface 45 v) xT 63 true).run Tryd.prog w = .ok (.tuple #[.nilIface, .bool false]) w := run_typeAssert_lacksB Tryd.underlying63 (by kernel_rfl) (by kernel_rfl) v xT w
theorem hasUnwrapN (v : Value) (xT : TypeId) (w : World) : (Instr.typeAssert (.iface 45 v) xT 66 true).run Tryd.prog w = .ok (.tuple #[.iface 45 v, .bool true]) w := run_typeAssert_hasB Tryd.underlying66 (by kernel_rfl) v xT w

set_option maxHeartbeats 1000000 in
set_option maxRecDepth 100000 in
/-- errors.Is(e, x), e a *strconv.NumError that holds x itself. -/
theorem is_same (N : Nat) (b : Addr) (w : World) (h2 : w.cell? ⟨N, 2, none⟩ = some (.iface 72 (.pointer (some b)))) :
    Calls Tryd.prog 17 #[.iface 45 (.pointer (some ⟨N, 0, none⟩)), .iface 72 (.pointer (some b))] w fun e w' => e = .returned (.bool true) ∧ w' = w := by
  obtain ⟨i, hi, hcmp⟩ := Option.map_eq_some_iff.1 isComp
  obtain ⟨j, hj, hjs⟩ := Option.map_eq_some_iff.1 isSize
  have h23 := callTypeOf
  have h65 := callComparable
  have mR := methComparable
  have mU := methUnwrap
  have nE := noIsE
  have uE := noUnwrapE
  have vE := noUnwrapsE
  have nW := noIsN
  have uW := hasUnwrapN
  have heq := run_eql_iface_ptr_same (P := Tryd.prog) w b Tryd.underlying24 Tryd.underlying72 hi hcmp hj
  have hty := run_eql_iface_types (P := Tryd.prog) 45 72 (.pointer (some ⟨N, 0, none⟩)) (.pointer (some b)) Tryd.underlying24 (by decide) w
  go_enter Tryd.func17, Tryd.ntmps17
  go_wp2
  refine wp_loop_rounds 2 ?_
  rw [rounds_succ]
  go_wp2
  rw [rounds_succ]
  go_wp2
  go_ret
  exact ⟨rfl, rfl⟩

set_option maxHeartbeats 1000000 in
set_option maxRecDepth 100000 in
/-- errors.Is(e, x), e a *strconv.NumError that holds another error of errors.New's make. -/
theorem is_other (N : Nat) (b a : Addr) (ca cb : Array Value) (ta tb : TypeId) (w : World) (h2 : w.cell? ⟨N, 2, none⟩ = some (.iface 72 (.pointer (some a)))) (hne : a ≠ b) (ha : w.heap[a.block]? = some (.cells ca ta (0, 0))) (hb : w.heap[b.block]? = some (.cells cb tb (0, 0))) :
    Calls Tryd.prog 17 #[.iface 45 (.pointer (some ⟨N, 0, none⟩)), .iface 72 (.pointer (some b))] w fun e w' => e = .returned (.bool false) ∧ w' = w := by
  obtain ⟨i, hi, hcmp⟩ := Option.map_eq_some_iff.1 isComp
  obtain ⟨j, hj, hjs⟩ := Option.map_eq_some_iff.1 isSize
  have h23 := callTypeOf
  have h65 := callComparable
  have mR := methComparable
  have mU := methUnwrap
  have nE := noIsE
  have uE := noUnwrapE
  have vE := noUnwrapsE
  have nW := noIsN
  have uW := hasUnwrapN
  have heq := run_eql_iface_ptr_other (P := Tryd.prog) w Tryd.underlying24 Tryd.underlying72 hi hcmp hj (by rw [hjs]; decide) hne ha hb
  have hty := run_eql_iface_types (P := Tryd.prog) 45 72 (.pointer (some ⟨N, 0, none⟩)) (.pointer (some b)) Tryd.underlying24 (by decide) w
  go_enter Tryd.func17, Tryd.ntmps17
  go_wp2
  refine wp_loop_rounds 2 ?_
  rw [rounds_succ]
  go_wp2
  rw [rounds_succ]
  go_wp2
  go_ret
  exact ⟨rfl, rfl⟩
end Go.Proofs.Qxb6614300aDoor
