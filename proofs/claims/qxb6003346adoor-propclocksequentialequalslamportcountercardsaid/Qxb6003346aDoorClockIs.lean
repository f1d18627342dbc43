/-
  errors.Is at the sentinel itself, by its contract (after the guide's SentryIs).
-/
import Derived.Test.Qxb6003346aDoorChecked
import Derived.WalkKit
import Derived.LaidEql
import Derived.Stop.Asserts
import Derived.RowKitTokens
namespace Go.Proofs.Qxb6003346aDoor.Clock
open Go.RowKit Go.Extern.Stop Go.Stop Go.Extern

theorem isTypeOf (v : Value) (w : World) : (Extern.ReflectliteType.typeOf #[.iface 104 v]).run Tryd.prog w = .ok (.iface 76 (.agg #[.pointer (some ⟨5, 104, none⟩)])) w := by kernel_rfl
theorem isComparable (w : World) : (callFunc 76 #[.agg #[.pointer (some ⟨5, 104, none⟩)]]).run Tryd.prog w = .ok (.value (.bool true)) w := by kernel_rfl
theorem isMethodComparable (v : Value) (w : World) : (Go.method 246 76 v "Comparable").run Tryd.prog w = .ok (76, v) w := by kernel_rfl
theorem isComp : (Tryd.prog.info? 104).map (·.comparable) = some true := by kernel_rfl
theorem isSize : (Tryd.prog.info? 130).map (·.size) = some 1 := by kernel_rfl

set_option maxHeartbeats 1000000 in
theorem is_same (a : Addr) (w : World) :
    Calls Tryd.prog 20 #[.iface 104 (.pointer (some a)), .iface 104 (.pointer (some a))] w fun e w' => e = .returned (.bool true) ∧ w' = w := by
  obtain ⟨i, hi, hcmp⟩ := Option.map_eq_some_iff.1 isComp
  obtain ⟨j, hj, hjs⟩ := Option.map_eq_some_iff.1 isSize
  have h8 := @run_callFunc_extern Tryd.prog 34 _ Extern.ReflectliteType.typeOf Tryd.func34 (by kernel_rfl) (by kernel_rfl) (by kernel_rfl) (by kernel_rfl)
  have tT := isTypeOf
  have cT := isComparable
  have mR := isMethodComparable
  have heq := run_eql_iface_ptr_same (P := Tryd.prog) w a Tryd.underlying52 Tryd.underlying104 hi hcmp hj
  go_enter Tryd.func20, Tryd.ntmps20
  go_wp2
  refine wp_loop_rounds 1 ?_
  rw [rounds_succ]
  go_wp2
  go_ret
  exact ⟨rfl, rfl⟩
end Go.Proofs.Qxb6003346aDoor.Clock
