/-
  errors.Is(x, x) AT THIS DUMP (after the guide's SentryIs.lean): Go's own text of errors.Is and errors.is, walked.
-/
import Derived.Test.YbulkbeqFmtRows
import Derived.WalkKit
import Derived.LaidEql
import Derived.Stop.Asserts
import Derived.RowKitTokens
namespace Go.Proofs.YbulkbeqFmt
open Go.RowKit Go.Extern.Stop Go.Stop Go.Extern

theorem isTypeOf (v : Value) (w : World) : (Extern.ReflectliteType.typeOf #[.iface 48 v]).run Ybaf.prog w = .ok (.iface 65 (.agg #[.pointer (some ⟨1, 48, none⟩)])) w := by kernel_rfl
theorem callComparable (w : World) : (callFunc 42 #[.agg #[.pointer (some ⟨1, 48, none⟩)]]).run Ybaf.prog w = .ok (.value (.bool true)) w := by
  rw [run_callFunc_extern Ybaf.func42 (by kernel_rfl) (by kernel_rfl) (by kernel_rfl) (show Extern.find Ybaf.f42 = some (Extern.ReflectliteType.method fun t => do Extern.Rtype.noPackHeld "Comparable" t; pure (.bool (← typeInfo t).comparable)) by kernel_rfl)]
  kernel_rfl
theorem callTypeOf (v : Value) (w : World) : (callFunc 10 #[.iface 48 v]).run Ybaf.prog w = .ok (.value (.iface 65 (.agg #[.pointer (some ⟨1, 48, none⟩)]))) w := by
  rw [run_callFunc_extern Ybaf.func10 (by kernel_rfl) (by kernel_rfl) (by kernel_rfl) (show Extern.find Ybaf.f10 = some Extern.ReflectliteType.typeOf by kernel_rfl), isTypeOf]
  rfl
theorem isMethodComparable (n : Nat) (v : Value) (w : World) : (Go.method (n + 1) 65 v "Comparable").run Ybaf.prog w = .ok (42, v) w := by kernel_rfl
theorem isComp : (Ybaf.prog.info? 48).map (·.comparable) = some true := by kernel_rfl
theorem isSize : (Ybaf.prog.info? 50).map (·.size) = some 1 := by kernel_rfl

set_option maxHeartbeats 400000 in
/-- errors.Is(x, x), x a pointer to an errors.errorString. -/
theorem is_same (a : Addr) (w : World) :
    Calls Ybaf.prog 8 #[.iface 48 (.pointer (some a)), .iface 48 (.pointer (some a))] w fun e w' => e = .returned (.bool true) ∧ w' = w := by
  obtain ⟨i, hi, hcmp⟩ := Option.map_eq_some_iff.1 isComp
  obtain ⟨j, hj, hjs⟩ := Option.map_eq_some_iff.1 isSize
  have tT := callTypeOf
  have cT := callComparable
  have mR := isMethodComparable
  have heq := run_eql_iface_ptr_same (P := Ybaf.prog) w a Ybaf.underlying24 Ybaf.underlying48 hi hcmp hj
  go_enter Ybaf.func8, Ybaf.ntmps8
  go_wp2
  refine wp_loop_rounds 1 ?_
  rw [rounds_succ]
  go_wp2
  go_ret
  exact ⟨rfl, rfl⟩
end Go.Proofs.YbulkbeqFmt
