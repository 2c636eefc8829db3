import Derived.Test.YbulkakoiDoorIs
namespace Go.Proofs.YbulkakoiDoor
open Go.RowKit Go.Extern.Stop Go.Stop Go.Extern

theorem Ybad.noIsE (v : Value) (xT : TypeId) (w : World) : (Instr.typeAssert (.iface 103 v) xT 96 true).run Ybad.prog w = .ok (.tuple #[.nilIface, .bool false]) w := run_typeAssert_lacksB Ybad.underlying96 (by kernel_rfl) (by kernel_rfl) v xT w
theorem Ybad.noUnwrapE (v : Value) (xT : TypeId) (w : World) : (Instr.typeAssert (.iface 103 v) xT 99 true).run Ybad.prog w = .ok (.tuple #[.nilIface, .bool false]) w := run_typeAssert_lacksB Ybad.underlying99 (by kernel_rfl) (by kernel_rfl) v xT w
theorem Ybad.noUnwrapsE (v : Value) (xT : TypeId) (w : World) : (Instr.typeAssert (.iface 103 v) xT 100 true).run Ybad.prog w = .ok (.tuple #[.nilIface, .bool false]) w := run_typeAssert_lacksB Ybad.underlying100 (by kernel_rfl) (by kernel_rfl) v xT w

set_option maxHeartbeats 1000000 in
set_option maxRecDepth 100000 in
/-- errors.Is(x, y), two different pointers to errors.errorString. -/
theorem is_other (a b : Addr) (ca cb : Array Value) (ta tb : TypeId) (w : World) (hne : a ≠ b) (ha : w.heap[a.block]? = some (.cells ca ta (0, 0))) (hb : w.heap[b.block]? = some (.cells cb tb (0, 0))) :
    Calls Ybad.prog 15 #[.iface 103 (.pointer (some a)), .iface 103 (.pointer (some b))] w fun e w' => e = .returned (.bool false) ∧ w' = w := by
  obtain ⟨i, hi, hcmp⟩ := Option.map_eq_some_iff.1 Ybad.isComp
  obtain ⟨j, hj, hjs⟩ := Option.map_eq_some_iff.1 Ybad.isSize
  have h8 := @run_callFunc_extern Ybad.prog 21 _ Extern.ReflectliteType.typeOf Ybad.func21 (by kernel_rfl) (by kernel_rfl) (by kernel_rfl) (by kernel_rfl)
  have h32 := @run_callFunc_extern Ybad.prog 50 _ cmpM Ybad.func50 (by kernel_rfl) (by kernel_rfl) (by kernel_rfl) (by kernel_rfl)
  have tT := Ybad.isTypeOf
  have cT := Ybad.isComparable
  have mR := Ybad.isMethodComparable
  have nE := Ybad.noIsE
  have uE := Ybad.noUnwrapE
  have vE := Ybad.noUnwrapsE
  have heq := run_eql_iface_ptr_other (P := Ybad.prog) w Ybad.underlying30 Ybad.underlying103 hi hcmp hj (by rw [hjs]; decide) hne ha hb
  go_enter Ybad.func15, Ybad.ntmps15
  go_wp2
  refine wp_loop_rounds 1 ?_
  rw [rounds_succ]
  go_wp2
  go_ret
  exact ⟨rfl, rfl⟩
end Go.Proofs.YbulkakoiDoor
