/-
  errors.Is BY ITS CONTRACT at this dump (after the guide's is-facts pattern): a *fmt.wrapError that wraps the sentinel itself.
  THE NUMBERS: 32: error · 70: *errors.errorString · 72: errors.errorString · 54: *fmt.wrapError · 60: reflectlite's rtype · 62, 65, 67: interface{ Is(error) bool }, interface{ Unwrap() error }, interface{ Unwrap() []error } · functions: 9: errors.Is · 15: reflectlite.TypeOf · 46: (rtype).Comparable · 41: (*fmt.wrapError).Unwrap.
-/
import Derived.Test.YbulkaxeuFmtChecked
import Derived.WalkKit
import Derived.LaidEql
import Derived.Stop.Asserts
import Derived.RowKitTokens
namespace Go.Proofs.YbulkaxeuFmt
namespace Att
open Go.RowKit Go.Extern.Stop Go.Stop Go.Extern

theorem isTypeOf (v : Value) (w : World) : (callFunc 15 #[.iface 70 v]).run Ybaf.prog w = .ok (.value (.iface 60 (.agg #[.pointer (some ⟨1, 70, none⟩)]))) w := by kernel_rfl
theorem isComparable (w : World) : (callFunc 46 #[.agg #[.pointer (some ⟨1, 70, none⟩)]]).run Ybaf.prog w = .ok (.value (.bool true)) w := by kernel_rfl
theorem isMethodComparable (v : Value) (w : World) : (Go.method 212 60 v "Comparable").run Ybaf.prog w = .ok (46, v) w := by kernel_rfl
theorem methodUnwrap (v : Value) (w : World) : (Go.method 212 54 v "Unwrap").run Ybaf.prog w = .ok (41, v) w := by kernel_rfl
theorem isComp : (Ybaf.prog.info? 70).map (·.comparable) = some true := by kernel_rfl
theorem isSize : (Ybaf.prog.info? 72).map (·.size) = some 1 := by kernel_rfl
theorem noIsW (v : Value) (xT : TypeId) (w : World) : (Instr.typeAssert (.iface 54 v) xT 62 true).run Ybaf.prog w = .ok (.tuple #[.nilIface, .bool false]) w := run_typeAssert_lacksB Ybaf.underlying62 (by kernel_rfl) (by kernel_rfl) v xT w
theorem hasUnwrapW (v : Value) (xT : TypeId) (w : World) : (Instr.typeAssert (.iface 54 v) xT 65 true).run Ybaf.prog w = .ok (.tuple #[.iface 54 v, .bool true]) w := run_typeAssert_hasB Ybaf.underlying65 (by kernel_rfl) v xT w

set_option maxRecDepth 100000 in
set_option maxHeartbeats 1000000 in
/-- errors.Is(e, x), e a *fmt.wrapError that wraps x itself: one Unwrap, then equal. -/
theorem is_wrap_same (pb po : Nat) (b : Addr) (w : World) (h1 : w.cell? ⟨pb, po + 1, none⟩ = some (.iface 70 (.pointer (some b)))) :
    Calls Ybaf.prog 9 #[.iface 54 (.pointer (some ⟨pb, po, none⟩)), .iface 70 (.pointer (some b))] w fun e w' => e = .returned (.bool true) ∧ w' = w := by
  obtain ⟨i, hi, hcmp⟩ := Option.map_eq_some_iff.1 isComp
  obtain ⟨j, hj, hjs⟩ := Option.map_eq_some_iff.1 isSize
  have tT := isTypeOf
  have cT := isComparable
  have mR := isMethodComparable
  have mU := methodUnwrap
  have nW := noIsW
  have uW := hasUnwrapW
  have heq := run_eql_iface_ptr_same (P := Ybaf.prog) w b Ybaf.underlying32 Ybaf.underlying70 hi hcmp hj
  have hty := run_eql_iface_types (P := Ybaf.prog) 54 70 (.pointer (some ⟨pb, po, none⟩)) (.pointer (some b)) Ybaf.underlying32 (by decide) w
  go_enter Ybaf.func9, Ybaf.ntmps9
  go_wp2
  refine wp_loop_rounds 2 ?_
  rw [rounds_succ]
  go_wp2
  rw [rounds_succ]
  go_wp2
  go_ret
  exact ⟨rfl, rfl⟩

end Att
end Go.Proofs.YbulkaxeuFmt
