/-
  Seat b4654aF: the closed facts that a walk over fmt.Errorf and errors.Is wants at this dump's numbers, and errors.Is over a wrapped sentinel as a contract.
  The numbers: 37: error · 129: pointer to errors.errorString · 131: errors.errorString · 116: pointer to fmt.wrapError · 118: reflectlite's rtype · 120, 123, 125: the three interfaces that errors.is asks for · functions 11: errors.Is · 25: reflectlite.TypeOf · 65: (rtype).Comparable · 61: (wrapError).Unwrap · 34: fmt.errorf.
-/
import Derived.Test.YbulkcrjaFmtChecked
import Derived.WalkKit
import Derived.LaidEql
import Derived.Stop.Asserts
import Derived.Stop.CallBack
import Derived.Stop.IfaceNil
import Derived.RowKitTokens
import Derived.WalkSpells
namespace Go.Proofs.YbulkcrjaFmt
open Go.RowKit Go.Extern.Stop Go.Stop Go.Extern

theorem isTypeOf (v : Value) (w : World) : (callFunc 25 #[.iface 129 v]).run Ybaf.prog w = .ok (.value (.iface 118 (.agg #[.pointer (some ⟨3, 129, none⟩)]))) w := by kernel_rfl
theorem isComparable (w : World) : (callFunc 65 #[.agg #[.pointer (some ⟨3, 129, none⟩)]]).run Ybaf.prog w = .ok (.value (.bool true)) w := by kernel_rfl
theorem isMethodComparable (v : Value) (w : World) : (Go.method 296 118 v "Comparable").run Ybaf.prog w = .ok (65, v) w := by kernel_rfl
theorem methodUnwrap (v : Value) (w : World) : (Go.method 296 116 v "Unwrap").run Ybaf.prog w = .ok (61, v) w := by kernel_rfl
theorem isComp : (Ybaf.prog.info? 129).map (·.comparable) = some true := by kernel_rfl
theorem isSize : (Ybaf.prog.info? 131).map (·.size) = some 1 := by kernel_rfl
theorem noIsE (v : Value) (xT : TypeId) (w : World) : (Instr.typeAssert (.iface 129 v) xT 120 true).run Ybaf.prog w = .ok (.tuple #[.nilIface, .bool false]) w := run_typeAssert_lacksB Ybaf.underlying120 (by kernel_rfl) (by kernel_rfl) v xT w
theorem noIsW (v : Value) (xT : TypeId) (w : World) : (Instr.typeAssert (.iface 116 v) xT 120 true).run Ybaf.prog w = .ok (.tuple #[.nilIface, .bool false]) w := run_typeAssert_lacksB Ybaf.underlying120 (by kernel_rfl) (by kernel_rfl) v xT w
theorem hasUnwrapW (v : Value) (xT : TypeId) (w : World) : (Instr.typeAssert (.iface 116 v) xT 123 true).run Ybaf.prog w = .ok (.tuple #[.iface 116 v, .bool true]) w := run_typeAssert_hasB Ybaf.underlying123 (by kernel_rfl) v xT w

set_option maxRecDepth 100000 in
/-- errors.Is(e, x), e a wrapError that wraps the sentinel x. -/
theorem is_wrap_same (pb po : Nat) (b : Addr) (w : World) (h1 : w.cell? ⟨pb, po + 1, none⟩ = some (.iface 129 (.pointer (some b)))) :
    Calls Ybaf.prog 11 #[.iface 116 (.pointer (some ⟨pb, po, none⟩)), .iface 129 (.pointer (some b))] w fun e w' => e = .returned (.bool true) ∧ w' = w := by
  obtain ⟨i, hi, hcmp⟩ := Option.map_eq_some_iff.1 isComp
  obtain ⟨j, hj, hjs⟩ := Option.map_eq_some_iff.1 isSize
  have tT := isTypeOf
  have cT := isComparable
  have nE := noIsE
  have nW := noIsW
  have uW := hasUnwrapW
  have heq := run_eql_iface_ptr_same (P := Ybaf.prog) w b Ybaf.underlying37 Ybaf.underlying129 hi hcmp hj
  have hty := run_eql_iface_types (P := Ybaf.prog) 116 129 (.pointer (some ⟨pb, po, none⟩)) (.pointer (some b)) Ybaf.underlying37 (by decide) w
  have mR := isMethodComparable
  have mU := methodUnwrap
  go_enter Ybaf.func11, Ybaf.ntmps11
  go_wp2
  refine wp_loop_rounds 2 ?_
  rw [rounds_succ]
  go_wp2
  rw [rounds_succ]
  go_wp2
  go_ret
  exact ⟨rfl, rfl⟩
end Go.Proofs.YbulkcrjaFmt
