import Derived.Test.YbulkakoiDoorProg
import Derived.WalkKit
import Derived.LaidEql
import Derived.Stop.Asserts
import Derived.RowKitTokens
namespace Go.Proofs.YbulkakoiDoor
open Go.RowKit Go.Extern.Stop Go.Stop Go.Extern

theorem Ybad.isTypeOf (v : Value) (w : World) : (Extern.ReflectliteType.typeOf #[.iface 103 v]).run Ybad.prog w = .ok (.iface 94 (.agg #[.pointer (some ⟨6, 103, none⟩)])) w := by kernel_rfl
/-- the model's entry for (rtype).Comparable, behind a name. -/
def cmpM : Array Value → Sem Value := Extern.ReflectliteType.method fun t => do Extern.Rtype.noPackHeld "Comparable" t; pure (.bool (← typeInfo t).comparable)
theorem Ybad.isComparable (w : World) : (cmpM #[.agg #[.pointer (some ⟨6, 103, none⟩)]]).run Ybad.prog w = .ok (.bool true) w := by kernel_rfl
theorem Ybad.isComp : (Ybad.prog.info? 103).map (·.comparable) = some true := by kernel_rfl
theorem Ybad.isSize : (Ybad.prog.info? 145).map (·.size) = some 1 := by kernel_rfl
theorem Ybad.isMethodComparable (v : Value) (w : World) : (Go.method 262 94 v "Comparable").run Ybad.prog w = .ok (50, v) w := by kernel_rfl

set_option maxHeartbeats 1000000 in
set_option maxRecDepth 100000 in
/-- errors.Is(x, x), x a pointer to an errors.errorString. -/
theorem is_same (a : Addr) (w : World) :
    Calls Ybad.prog 15 #[.iface 103 (.pointer (some a)), .iface 103 (.pointer (some a))] w fun e w' => e = .returned (.bool true) ∧ w' = w := by
  obtain ⟨i, hi, hcmp⟩ := Option.map_eq_some_iff.1 Ybad.isComp
  obtain ⟨j, hj, hjs⟩ := Option.map_eq_some_iff.1 Ybad.isSize
  have h8 := @run_callFunc_extern Ybad.prog 21 _ Extern.ReflectliteType.typeOf Ybad.func21 (by kernel_rfl) (by kernel_rfl) (by kernel_rfl) (by kernel_rfl)
  have h32 := @run_callFunc_extern Ybad.prog 50 _ cmpM Ybad.func50 (by kernel_rfl) (by kernel_rfl) (by kernel_rfl) (by kernel_rfl)
  have tT := Ybad.isTypeOf
  have cT := Ybad.isComparable
  have mR := Ybad.isMethodComparable
  have heq := run_eql_iface_ptr_same (P := Ybad.prog) w a Ybad.underlying30 Ybad.underlying103 hi hcmp hj
  go_enter Ybad.func15, Ybad.ntmps15
  go_wp2
  refine wp_loop_rounds 1 ?_
  rw [rounds_succ]
  go_wp2
  go_ret
  exact ⟨rfl, rfl⟩
end Go.Proofs.YbulkakoiDoor
