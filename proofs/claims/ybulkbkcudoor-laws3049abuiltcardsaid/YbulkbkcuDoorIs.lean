/- errors.Is by its contracts at this dump: nil; a *strconv.NumError that holds the sentinel itself; one that holds another sentinel. After the guide's SentryIs.lean. -/
import Derived.Test.YbulkbkcuDoorRows
import Derived.WalkKit
import Derived.LaidEql
import Derived.Stop.Asserts
import Derived.RowKitTokens
namespace Go.Proofs.YbulkbkcuDoor
open Go.RowKit Go.Extern.Stop Go.Stop Go.Extern

theorem Ybad.isTypeOf (v : Value) (w : World) : (callFunc 14 #[.iface 83 v]).run Ybad.prog w = .ok (.value (.iface 59 (.agg #[.pointer (some ⟨5, 83, none⟩)]))) w := by kernel_rfl
theorem Ybad.isComparable (w : World) : (callFunc 59 #[.agg #[.pointer (some ⟨5, 83, none⟩)]]).run Ybad.prog w = .ok (.value (.bool true)) w := by kernel_rfl
theorem Ybad.isMethodComparable (v : Value) (w : World) : (Go.method 226 59 v "Comparable").run Ybad.prog w = .ok (59, v) w := by kernel_rfl
theorem Ybad.isComp : (Ybad.prog.info? 83).map (·.comparable) = some true := by kernel_rfl
theorem Ybad.isSize : (Ybad.prog.info? 85).map (·.size) = some 1 := by kernel_rfl
theorem Ybad.noIsE (v : Value) (xT : TypeId) (w : World) : (Instr.typeAssert (.iface 83 v) xT 61 true).run Ybad.prog w = .ok (.tuple #[.nilIface, .bool false]) w := run_typeAssert_lacksB Ybad.underlying61 (by kernel_rfl) (by kernel_rfl) v xT w
theorem Ybad.noUnwrapE (v : Value) (xT : TypeId) (w : World) : (Instr.typeAssert (.iface 83 v) xT 64 true).run Ybad.prog w = .ok (.tuple #[.nilIface, .bool false]) w := run_typeAssert_lacksB Ybad.underlying64 (by kernel_rfl) (by kernel_rfl) v xT w
theorem Ybad.noUnwrapsE (v : Value) (xT : TypeId) (w : World) : (Instr.typeAssert (.iface 83 v) xT 66 true).run Ybad.prog w = .ok (.tuple #[.nilIface, .bool false]) w := run_typeAssert_lacksB Ybad.underlying66 (by kernel_rfl) (by kernel_rfl) v xT w
theorem Ybad.noIsW (v : Value) (xT : TypeId) (w : World) : (Instr.typeAssert (.iface 55 v) xT 61 true).run Ybad.prog w = .ok (.tuple #[.nilIface, .bool false]) w := run_typeAssert_lacksB Ybad.underlying61 (by kernel_rfl) (by kernel_rfl) v xT w
theorem Ybad.hasUnwrapW (v : Value) (xT : TypeId) (w : World) : (Instr.typeAssert (.iface 55 v) xT 64 true).run Ybad.prog w = .ok (.tuple #[.iface 55 v, .bool true]) w := run_typeAssert_hasB Ybad.underlying64 (by kernel_rfl) v xT w
theorem Ybad.methodUnwrap (v : Value) (w : World) : (Go.method 226 55 v "Unwrap").run Ybad.prog w = .ok (55, v) w := by kernel_rfl

/-- errors.Is(nil, x). -/
theorem is_nil (b : Addr) (w : World) :
    Calls Ybad.prog 10 #[.nilIface, .iface 83 (.pointer (some b))] w fun e w' => e = .returned (.bool false) ∧ w' = w := by
  have hn := run_eql_iface_nil_left (P := Ybad.prog) w 83 (.pointer (some b)) Ybad.underlying23
  go_enter Ybad.func10, Ybad.ntmps10
  go_wp2
  go_ret
  exact ⟨rfl, rfl⟩

/-- errors.Is(e, x), e a *strconv.NumError that holds x itself: one Unwrap, then equal. -/
theorem is_num_same (n : Nat) (b : Addr) (w : World) (h1 : w.cell? ⟨n, 2, none⟩ = some (.iface 83 (.pointer (some b)))) :
    Calls Ybad.prog 10 #[.iface 55 (.pointer (some ⟨n, 0, none⟩)), .iface 83 (.pointer (some b))] w fun e w' => e = .returned (.bool true) ∧ w' = w := by
  obtain ⟨i, hi, hcmp⟩ := Option.map_eq_some_iff.1 Ybad.isComp
  obtain ⟨j, hj, hjs⟩ := Option.map_eq_some_iff.1 Ybad.isSize
  have tT := Ybad.isTypeOf
  have cT := Ybad.isComparable
  have mR := Ybad.isMethodComparable
  have nE := Ybad.noIsE
  have uE := Ybad.noUnwrapE
  have vE := Ybad.noUnwrapsE
  have nW := Ybad.noIsW
  have uW := Ybad.hasUnwrapW
  have mU := Ybad.methodUnwrap
  have heq := run_eql_iface_ptr_same (P := Ybad.prog) w b Ybad.underlying23 Ybad.underlying83 hi hcmp hj
  have hty := run_eql_iface_types (P := Ybad.prog) 55 83 (.pointer (some ⟨n, 0, none⟩)) (.pointer (some b)) Ybad.underlying23 (by decide) w
  go_enter Ybad.func10, Ybad.ntmps10
  go_wp2
  refine wp_loop_rounds 2 ?_
  rw [rounds_succ]
  go_wp2
  rw [rounds_succ]
  go_wp2
  go_ret
  exact ⟨rfl, rfl⟩

/-- errors.Is(e, x), e a *strconv.NumError that holds another error of errors.New's make. -/
theorem is_num_other (n : Nat) (b a : Addr) (ca cb : Array Value) (ta tb : TypeId) (w : World) (h1 : w.cell? ⟨n, 2, none⟩ = some (.iface 83 (.pointer (some a)))) (hne : a ≠ b) (ha : w.heap[a.block]? = some (.cells ca ta (0, 0))) (hb : w.heap[b.block]? = some (.cells cb tb (0, 0))) :
    Calls Ybad.prog 10 #[.iface 55 (.pointer (some ⟨n, 0, none⟩)), .iface 83 (.pointer (some b))] w fun e w' => e = .returned (.bool false) ∧ w' = w := by
  obtain ⟨i, hi, hcmp⟩ := Option.map_eq_some_iff.1 Ybad.isComp
  obtain ⟨j, hj, hjs⟩ := Option.map_eq_some_iff.1 Ybad.isSize
  have tT := Ybad.isTypeOf
  have cT := Ybad.isComparable
  have mR := Ybad.isMethodComparable
  have nE := Ybad.noIsE
  have uE := Ybad.noUnwrapE
  have vE := Ybad.noUnwrapsE
  have nW := Ybad.noIsW
  have uW := Ybad.hasUnwrapW
  have mU := Ybad.methodUnwrap
  have heq := run_eql_iface_ptr_other (P := Ybad.prog) w Ybad.underlying23 Ybad.underlying83 hi hcmp hj (by rw [hjs]; decide) hne ha hb
  have hty := run_eql_iface_types (P := Ybad.prog) 55 83 (.pointer (some ⟨n, 0, none⟩)) (.pointer (some b)) Ybad.underlying23 (by decide) w
  go_enter Ybad.func10, Ybad.ntmps10
  go_wp2
  refine wp_loop_rounds 2 ?_
  rw [rounds_succ]
  go_wp2
  rw [rounds_succ]
  go_wp2
  go_ret
  exact ⟨rfl, rfl⟩
end Go.Proofs.YbulkbkcuDoor
